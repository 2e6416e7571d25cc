import PyProof.Rows.All
import Wide.All
import OpenK.AllK
import Wide.FinOn
import Lean
import PySem.Challenge.RW_ff0001_01
set_option Elab.async false

section S_Hd
open PySem PySem.W PyProof.Rows
namespace Mine
set_option maxRecDepth 100000 in
set_option maxHeartbeats 8000000 in
open_top hd for PySem.Challenge.rw_ff0001_01
end Mine
end S_Hd

section S_Drawn
open PySem PySem.W PyProof.Rows PySem.Calls
namespace Mine


inductive Del (x : Addr × Obj) : List (Addr × Obj) → List (Addr × Obj) → Prop
  | head {r} : Del x (x :: r) r
  | tail {p r r'} : Del x r r' → Del x (p :: r) (p :: r')
theorem Del.sub {x : Addr × Obj} {l l' : List (Addr × Obj)} (h : Del x l l') : ∀ p ∈ x :: l', p ∈ l := by
  induction h with
  | head => exact fun p hp => hp
  | tail _ ih =>
    intro p hp
    rcases List.mem_cons.mp hp with rfl | hp
    · exact .tail _ (ih _ (.head _))
    · rcases List.mem_cons.mp hp with rfl | hp
      · exact .head _
      · exact .tail _ (ih _ (.tail _ hp))

theorem fdiv_bd {k : Int} {n : Nat} (h0 : 0 ≤ k) (h1 : 0 < n) : 0 ≤ Int.fdiv k n ∧ Int.fdiv k n ≤ k := by
  rw [Int.fdiv_eq_ediv_of_nonneg _ (by omega)]
  exact ⟨Int.ediv_nonneg h0 (by omega), Int.ediv_le_self _ h0⟩
theorem fdiv_b1 {k : Int} {n : Nat} (h0 : 0 ≤ k) (h1 : 0 < n) (h2 : k < 500) : Int.fdiv k n ≤ 1000000 := Int.le_trans (fdiv_bd h0 h1).2 (by omega)
theorem fdiv_b2 {k : Int} {n : Nat} (h0 : 0 ≤ k) (h1 : 0 < n) (h2 : k < 500) : Int.fdiv k n < 500 := Int.lt_of_le_of_lt (fdiv_bd h0 h1).2 h2
theorem pow7_ne (e : Nat) : (7 : Int) ^ e ≠ 0 := Int.pow_ne_zero (by decide)
theorem pow7_log {e : Int} (h : e < 500) : ((7 : Int) ^ e.toNat).natAbs.log2 < 9000 := by
  have e1 : ((7 : Int) ^ e.toNat).natAbs = 7 ^ e.toNat := by rw [Int.natAbs_pow]; rfl
  rw [e1]
  refine (Nat.log2_lt (Nat.ne_of_gt (Nat.pow_pos (by decide)))).mpr ?_
  have h8 : (7 : Nat) ^ e.toNat ≤ 8 ^ e.toNat := Nat.pow_le_pow_left (by decide) _
  have h9 : (8 : Nat) ^ e.toNat = 2 ^ (3 * e.toNat) := by rw [Nat.pow_mul]
  rw [h9] at h8
  exact Nat.lt_of_le_of_lt h8 (Nat.pow_lt_pow_right (by decide) (by omega))

local macro_rules | `(tactic| walk_at "binaryOp Pow int int") => `(tactic| (k_here; k_dflt ((refine' pow_int_small ?ka ?kb ?kc ?_); (case ka => exact (fdiv_bd (by assumption) (by assumption)).1); (case kb => exact fdiv_b1 (by assumption) (by assumption) (by assumption)); (case kc => decide))))
local macro_rules | `(tactic| walk_at "binaryOp FloorDiv int int") => `(tactic| (k_here; k_dflt ((refine' floordiv_int ?ka ?_ (Or.inl (PyProof.noPylong_of_log2 ?kb))); (case ka => exact pow7_ne _); (case kb => exact pow7_log (fdiv_b2 (by assumption) (by assumption) (by assumption))))))
local macro_rules | `(tactic| k_mem) => `(tactic| first | exact List.Mem.head _ | assumption | exact List.Mem.tail _ (by assumption))
local macro_rules | `(tactic| news_mem) => `(tactic| k_mem)
local macro_rules | `(tactic| k_all) => `(tactic| assumption)

set_option maxRecDepth 100000 in
set_option maxHeartbeats 8000000 in
theorem drawn_ok {w : World} {loose : List Str} {mean : ExcName → Option Value} {mg mb : Str → Option Value}
    (dp un : Nat) (gd : Option (List Code)) (cn : Str) (cs : Scope) (a : Addr) (ccd : Value) (cl : List (Str × Addr)) (outer : List Env) (A₀ : Around) (base h₀ : Heap) (L : Addr) (m : Str → Option Value) (s : Shared) (Q E : Value → Shared → Prop)
    (l at_ : Addr) (vs : List Value) (ns : List Int) (k below : Int) (t tk : Tok) (n : Nat) (rest : List (Addr × Obj))
    (B : Below A₀ base outer h₀) (F : Fr h₀ L s.heap m) (X : (Mine.hd.heap_39 w.params).In h₀) (N : News h₀ L s.heap ((at_, listOf [Value.int k t].toArray n) :: rest)) (T : Top Mine.hd.view_39 loose mean mg mb h₀) (hk : cs.kind = .function)
    (hT : base.IsList l vs.toArray ∨ ∃ n', (l, listOf vs.toArray n') ∈ rest) (hI : IntsAre vs ns) (h1 : 0 < ns.length) (h2 : ns.length ≤ 63) (hne : ∀ p ∈ rest, p.1 ≠ at_)
    (k0 : 0 ≤ k) (k1 : k < 500) (b0 : 0 < below) (b1 : below ≤ 256) (hd : dp + 1 < recursionLimit) (hu : un + 8 < cLine)
    (hret : ∀ (r : Int) (t' t'' : Tok) (h' : Heap) (tk' : Nat), Fr h₀ L h' m → News h₀ L h' ((at_, listOf [Value.int (k + 1) t''].toArray n) :: rest) → 0 ≤ r → r < below → Q (.int r t') { s with heap := h', toks := tk' }) :
    wpAny (model PySem.Challenge.rw_ff0001_01.row.prog w) (ktrTop dp un gd cn cs L a ccd cl outer) (call (.ref 134) [.ref l, .ref at_, .int below tk]) Q E s := by
  revert X
  k_fill
  intro X
  rcases hT with hT | ⟨n', hT⟩
  all_goals (
    refine wpAny_call ?_
    k_dflt cell_enter
    k_steps
    exact hret _ _ _ _ _ (by assumption) (by assumption) (fmod_lo _ b0) (fmod_hi _ b0))
end Mine
end S_Drawn

section S_Spec
namespace Mine
inductive Due where
  | sf (len : Int) (data : List Int) (long : Bool)
  | ff (len : Int) (data : List Int) (long : Bool)
  | cf (seq : Int) (data : List Int)
  | fc (bs st fs : Int)

def val4 (row : List Int) : Int := row.getD 2 0 * 16777216 + row.getD 3 0 * 65536 + row.getD 4 0 * 256 + row.getD 5 0

def dueOf (row : List Int) : Option Due :=
  if row.length = 0 then none
  else if 63 < row.getD 0 0 then none
  else if row.getD 0 0 / 16 = 0 then
    if row.getD 0 0 % 16 = 0 then
      if row.length ≤ 1 then none
      else if row.getD 1 0 ≤ 0 then none
      else if (row.length : Int) - 2 < row.getD 1 0 then none
      else some (.sf (row.getD 1 0) ((row.drop 2).take (row.getD 1 0).toNat) true)
    else if (row.length : Int) - 1 < row.getD 0 0 % 16 then none
    else some (.sf (row.getD 0 0 % 16) ((row.drop 1).take (row.getD 0 0 % 16).toNat) false)
  else if row.getD 0 0 / 16 = 1 then
    if row.length < 2 then none
    else if row.getD 0 0 % 16 = 0 ∧ row.getD 1 0 = 0 then
      if row.length < 6 then none
      else some (.ff (val4 row) ((row.drop 6).take (val4 row).toNat) true)
    else some (.ff (256 * (row.getD 0 0 % 16) + row.getD 1 0) ((row.drop 2).take (256 * (row.getD 0 0 % 16) + row.getD 1 0).toNat) false)
  else if row.getD 0 0 / 16 = 2 then some (.cf (row.getD 0 0 % 16) (row.drop 1))
  else if row.length < 3 ∨ 2 < row.getD 0 0 % 16 ∨ (127 < row.getD 2 0 ∧ row.getD 2 0 < 241) ∨ 249 < row.getD 2 0 then none
  else some (.fc (row.getD 1 0) (row.getD 2 0) (row.getD 0 0 % 16))

theorem fd16 (x : Int) : x.fdiv 16 = x / 16 := Int.fdiv_eq_ediv_of_nonneg _ (by decide)
theorem fm16 (x : Int) : x.fmod 16 = x % 16 := Int.fmod_eq_emod_of_nonneg _ (by decide)

theorem getD_bd {os : List Int} (h : ∀ x ∈ os, 0 ≤ x ∧ x < 256) (i : Nat) : 0 ≤ os.getD i 0 ∧ os.getD i 0 < 256 := by
  rw [List.getD_eq_getElem?_getD]
  cases e : os[i]? with
  | none => simp
  | some x => exact h x (List.mem_of_getElem? e)
theorem drop_all {os : List Int} (h : ∀ x ∈ os, 0 ≤ x ∧ x < 256) (n : Nat) : ∀ x ∈ os.drop n, 0 ≤ x ∧ x < 256 := fun x hx => h x (List.mem_of_mem_drop hx)
theorem drop_bd {os : List Int} (h : ∀ x ∈ os, 0 ≤ x ∧ x < 256) (n i : Nat) : 0 ≤ (os.drop n).getD i 0 ∧ (os.drop n).getD i 0 < 256 := getD_bd (drop_all h n) i
theorem sum4 (row : List Int) : (List.map (fun k' : Int => row.getD (2 + k').toNat 0 * 256 ^ (3 - k').toNat) (PySem.W.rangeKs 0 ((4 : Int) - 0).toNat)).sum = val4 row := by
  have e : PySem.W.rangeKs 0 ((4 : Int) - 0).toNat = [0, 1, 2, 3] := by decide
  rw [e]
  show row.getD 2 0 * 256 ^ 3 + (row.getD 3 0 * 256 ^ 2 + (row.getD 4 0 * 256 ^ 1 + (row.getD 5 0 * 256 ^ 0 + 0))) = val4 row
  unfold val4
  omega
theorem val4_nonneg {row : List Int} (h : ∀ x ∈ row, 0 ≤ x ∧ x < 256) : 0 ≤ val4 row ∧ val4 row < 4294967296 := by
  have h2 := getD_bd h 2
  have h3 := getD_bd h 3
  have h4 := getD_bd h 4
  have h5 := getD_bd h 5
  unfold val4
  omega
-- generated below by a small program (wip/genspec.py)
theorem row_pos {row : List Int} (h : decide (row = []) = false) : (0 : Int) < (row.length : Int) := by
  cases row with
  | nil => simp at h
  | cons _ _ => simp only [List.length_cons]; omega
theorem row_zero {row : List Int} (h : decide (row = []) = true) : row.length = 0 := by
  have := of_decide_eq_true h
  rw [this]; rfl
theorem dn_zero {row : List Int} (h : row.length = 0) : dueOf row = none := by
  unfold dueOf
  exact if_pos h
theorem dn_out {os : List Int} {ahead : Int} (h : (os.length : Int) < ahead) : dueOf (os.drop ahead.toNat) = none := dn_zero (by rw [List.length_drop]; omega)
theorem dn_empty {row : List Int} (h0 : decide (row = []) = true) : dueOf row = none := by
  have hp := row_zero h0
  have e0 : row.getD (Int.toNat 0) 0 = row.getD 0 0 := rfl
  have e1 : row.getD (Int.toNat 1) 0 = row.getD 1 0 := rfl
  have e2 : row.getD (Int.toNat 2) 0 = row.getD 2 0 := rfl
  simp only [e0, e1, e2, fd16, fm16, List.length_drop, sum4] at *
  clear e0 e1 e2
  unfold dueOf
  repeat (first | (refine (if_pos (by omega)).trans ?_) | (refine (if_neg (by omega)).trans ?_))
  all_goals (first | rfl | omega)
theorem dn_kind {row : List Int} (h0 : decide (row = []) = false) (h1 : 63 < row.getD (Int.toNat 0) 0) : dueOf row = none := by
  have hp := row_pos h0
  have e0 : row.getD (Int.toNat 0) 0 = row.getD 0 0 := rfl
  have e1 : row.getD (Int.toNat 1) 0 = row.getD 1 0 := rfl
  have e2 : row.getD (Int.toNat 2) 0 = row.getD 2 0 := rfl
  simp only [e0, e1, e2, fd16, fm16, List.length_drop, sum4] at *
  clear e0 e1 e2
  unfold dueOf
  repeat (first | (refine (if_pos (by omega)).trans ?_) | (refine (if_neg (by omega)).trans ?_))
  all_goals (first | rfl | omega)
theorem d_sfL {row : List Int} (h0 : decide (row = []) = false) (h1 : ¬63 < row.getD (Int.toNat 0) 0) (h2 : (row.getD (Int.toNat 0) 0).fdiv 16 = 0) (h3 : (row.getD (Int.toNat 0) 0).fmod 16 = 0) (h4 : 1 < (row.length : Int)) (h5 : 0 < row.getD (Int.toNat 1) 0) (h6 : row.getD (Int.toNat 1) 0 ≤ ((List.drop 2 row).length : Int)) : dueOf row = some (.sf (row.getD (Int.toNat 1) 0) (List.take (row.getD 1 0).toNat (List.drop 2 row)) ((row.getD (Int.toNat 0) 0).fmod 16 == 0)) := by
  have hp := row_pos h0
  have e0 : row.getD (Int.toNat 0) 0 = row.getD 0 0 := rfl
  have e1 : row.getD (Int.toNat 1) 0 = row.getD 1 0 := rfl
  have e2 : row.getD (Int.toNat 2) 0 = row.getD 2 0 := rfl
  simp only [e0, e1, e2, fd16, fm16, List.length_drop, sum4] at *
  clear e0 e1 e2
  unfold dueOf
  repeat (first | (refine (if_pos (by omega)).trans ?_) | (refine (if_neg (by omega)).trans ?_))
  all_goals (first | rfl | ((simp only [Option.some.injEq, Due.sf.injEq, Due.ff.injEq, Due.cf.injEq, Due.fc.injEq, true_and, and_true]); first | done | (refine (beq_iff_eq.mpr ?_).symm; omega) | (refine (beq_eq_false_iff_ne.mpr ?_).symm; omega)))
theorem dn_sfL1 {row : List Int} (h0 : decide (row = []) = false) (h1 : ¬63 < row.getD (Int.toNat 0) 0) (h2 : (row.getD (Int.toNat 0) 0).fdiv 16 = 0) (h3 : (row.getD (Int.toNat 0) 0).fmod 16 = 0) (h4 : 1 < (row.length : Int)) (h5 : 0 < row.getD (Int.toNat 1) 0) (h6 : ¬row.getD (Int.toNat 1) 0 ≤ ((List.drop 2 row).length : Int)) : dueOf row = none := by
  have hp := row_pos h0
  have e0 : row.getD (Int.toNat 0) 0 = row.getD 0 0 := rfl
  have e1 : row.getD (Int.toNat 1) 0 = row.getD 1 0 := rfl
  have e2 : row.getD (Int.toNat 2) 0 = row.getD 2 0 := rfl
  simp only [e0, e1, e2, fd16, fm16, List.length_drop, sum4] at *
  clear e0 e1 e2
  unfold dueOf
  repeat (first | (refine (if_pos (by omega)).trans ?_) | (refine (if_neg (by omega)).trans ?_))
  all_goals (first | rfl | omega)
theorem dn_sfL2 {row : List Int} (h0 : decide (row = []) = false) (h1 : ¬63 < row.getD (Int.toNat 0) 0) (h2 : (row.getD (Int.toNat 0) 0).fdiv 16 = 0) (h3 : (row.getD (Int.toNat 0) 0).fmod 16 = 0) (h4 : 1 < (row.length : Int)) (h5 : ¬0 < row.getD (Int.toNat 1) 0) : dueOf row = none := by
  have hp := row_pos h0
  have e0 : row.getD (Int.toNat 0) 0 = row.getD 0 0 := rfl
  have e1 : row.getD (Int.toNat 1) 0 = row.getD 1 0 := rfl
  have e2 : row.getD (Int.toNat 2) 0 = row.getD 2 0 := rfl
  simp only [e0, e1, e2, fd16, fm16, List.length_drop, sum4] at *
  clear e0 e1 e2
  unfold dueOf
  repeat (first | (refine (if_pos (by omega)).trans ?_) | (refine (if_neg (by omega)).trans ?_))
  all_goals (first | rfl | omega)
theorem dn_sfL3 {row : List Int} (h0 : decide (row = []) = false) (h1 : ¬63 < row.getD (Int.toNat 0) 0) (h2 : (row.getD (Int.toNat 0) 0).fdiv 16 = 0) (h3 : (row.getD (Int.toNat 0) 0).fmod 16 = 0) (h4 : ¬1 < (row.length : Int)) : dueOf row = none := by
  have hp := row_pos h0
  have e0 : row.getD (Int.toNat 0) 0 = row.getD 0 0 := rfl
  have e1 : row.getD (Int.toNat 1) 0 = row.getD 1 0 := rfl
  have e2 : row.getD (Int.toNat 2) 0 = row.getD 2 0 := rfl
  simp only [e0, e1, e2, fd16, fm16, List.length_drop, sum4] at *
  clear e0 e1 e2
  unfold dueOf
  repeat (first | (refine (if_pos (by omega)).trans ?_) | (refine (if_neg (by omega)).trans ?_))
  all_goals (first | rfl | omega)
theorem d_sfS {row : List Int} (h0 : decide (row = []) = false) (h1 : ¬63 < row.getD (Int.toNat 0) 0) (h2 : (row.getD (Int.toNat 0) 0).fdiv 16 = 0) (h3 : (row.getD (Int.toNat 0) 0).fmod 16 ≠ 0) (h4 : (row.getD (Int.toNat 0) 0).fmod 16 ≤ ((List.drop 1 row).length : Int)) : dueOf row = some (.sf ((row.getD (Int.toNat 0) 0).fmod 16) (List.take ((row.getD 0 0).fmod 16).toNat (List.drop 1 row)) ((row.getD (Int.toNat 0) 0).fmod 16 == 0)) := by
  have hp := row_pos h0
  have e0 : row.getD (Int.toNat 0) 0 = row.getD 0 0 := rfl
  have e1 : row.getD (Int.toNat 1) 0 = row.getD 1 0 := rfl
  have e2 : row.getD (Int.toNat 2) 0 = row.getD 2 0 := rfl
  simp only [e0, e1, e2, fd16, fm16, List.length_drop, sum4] at *
  clear e0 e1 e2
  unfold dueOf
  repeat (first | (refine (if_pos (by omega)).trans ?_) | (refine (if_neg (by omega)).trans ?_))
  all_goals (first | rfl | ((simp only [Option.some.injEq, Due.sf.injEq, Due.ff.injEq, Due.cf.injEq, Due.fc.injEq, true_and, and_true]); first | done | (refine (beq_iff_eq.mpr ?_).symm; omega) | (refine (beq_eq_false_iff_ne.mpr ?_).symm; omega)))
theorem dn_sfS {row : List Int} (h0 : decide (row = []) = false) (h1 : ¬63 < row.getD (Int.toNat 0) 0) (h2 : (row.getD (Int.toNat 0) 0).fdiv 16 = 0) (h3 : (row.getD (Int.toNat 0) 0).fmod 16 ≠ 0) (h4 : ¬(row.getD (Int.toNat 0) 0).fmod 16 ≤ ((List.drop 1 row).length : Int)) : dueOf row = none := by
  have hp := row_pos h0
  have e0 : row.getD (Int.toNat 0) 0 = row.getD 0 0 := rfl
  have e1 : row.getD (Int.toNat 1) 0 = row.getD 1 0 := rfl
  have e2 : row.getD (Int.toNat 2) 0 = row.getD 2 0 := rfl
  simp only [e0, e1, e2, fd16, fm16, List.length_drop, sum4] at *
  clear e0 e1 e2
  unfold dueOf
  repeat (first | (refine (if_pos (by omega)).trans ?_) | (refine (if_neg (by omega)).trans ?_))
  all_goals (first | rfl | omega)
theorem dn_ff1 {row : List Int} (h0 : decide (row = []) = false) (h1 : ¬63 < row.getD (Int.toNat 0) 0) (h2 : (row.getD (Int.toNat 0) 0).fdiv 16 = 1) (h3 : (row.length : Int) < 2) : dueOf row = none := by
  have hp := row_pos h0
  have e0 : row.getD (Int.toNat 0) 0 = row.getD 0 0 := rfl
  have e1 : row.getD (Int.toNat 1) 0 = row.getD 1 0 := rfl
  have e2 : row.getD (Int.toNat 2) 0 = row.getD 2 0 := rfl
  simp only [e0, e1, e2, fd16, fm16, List.length_drop, sum4] at *
  clear e0 e1 e2
  unfold dueOf
  repeat (first | (refine (if_pos (by omega)).trans ?_) | (refine (if_neg (by omega)).trans ?_))
  all_goals (first | rfl | omega)
theorem dn_ff2 {row : List Int} (h0 : decide (row = []) = false) (h1 : ¬63 < row.getD (Int.toNat 0) 0) (h2 : (row.getD (Int.toNat 0) 0).fdiv 16 = 1) (h3 : ¬(row.length : Int) < 2) (h4 : (row.getD (Int.toNat 0) 0).fmod 16 = 0) (h5 : row.getD (Int.toNat 1) 0 = 0) (h6 : (row.length : Int) < 6) : dueOf row = none := by
  have hp := row_pos h0
  have e0 : row.getD (Int.toNat 0) 0 = row.getD 0 0 := rfl
  have e1 : row.getD (Int.toNat 1) 0 = row.getD 1 0 := rfl
  have e2 : row.getD (Int.toNat 2) 0 = row.getD 2 0 := rfl
  simp only [e0, e1, e2, fd16, fm16, List.length_drop, sum4] at *
  clear e0 e1 e2
  unfold dueOf
  repeat (first | (refine (if_pos (by omega)).trans ?_) | (refine (if_neg (by omega)).trans ?_))
  all_goals (first | rfl | omega)
theorem d_ffL {row : List Int} (h0 : decide (row = []) = false) (h1 : ¬63 < row.getD (Int.toNat 0) 0) (h2 : (row.getD (Int.toNat 0) 0).fdiv 16 = 1) (h3 : ¬(row.length : Int) < 2) (h4 : (row.getD (Int.toNat 0) 0).fmod 16 = 0) (h5 : row.getD (Int.toNat 1) 0 = 0) (h6 : ¬(row.length : Int) < 6) : dueOf row = some (.ff ((List.map (fun k' : Int => row.getD (2 + k').toNat 0 * 256 ^ (3 - k').toNat) (PySem.W.rangeKs 0 ((4 : Int) - 0).toNat)).sum) (List.take ((List.map (fun k' : Int => row.getD (2 + k').toNat 0 * 256 ^ (3 - k').toNat) (PySem.W.rangeKs 0 ((4 : Int) - 0).toNat)).sum).toNat (List.drop 6 row)) (row.getD (Int.toNat 1) 0 == 0)) := by
  have hp := row_pos h0
  have e0 : row.getD (Int.toNat 0) 0 = row.getD 0 0 := rfl
  have e1 : row.getD (Int.toNat 1) 0 = row.getD 1 0 := rfl
  have e2 : row.getD (Int.toNat 2) 0 = row.getD 2 0 := rfl
  simp only [e0, e1, e2, fd16, fm16, List.length_drop, sum4] at *
  clear e0 e1 e2
  unfold dueOf
  repeat (first | (refine (if_pos (by omega)).trans ?_) | (refine (if_neg (by omega)).trans ?_))
  all_goals (first | rfl | ((simp only [Option.some.injEq, Due.sf.injEq, Due.ff.injEq, Due.cf.injEq, Due.fc.injEq, true_and, and_true]); first | done | (refine (beq_iff_eq.mpr ?_).symm; omega) | (refine (beq_eq_false_iff_ne.mpr ?_).symm; omega)))
theorem d_ffS1 {row : List Int} (h0 : decide (row = []) = false) (h1 : ¬63 < row.getD (Int.toNat 0) 0) (h2 : (row.getD (Int.toNat 0) 0).fdiv 16 = 1) (h3 : ¬(row.length : Int) < 2) (h4 : (row.getD (Int.toNat 0) 0).fmod 16 = 0) (h5 : row.getD (Int.toNat 1) 0 ≠ 0) : dueOf row = some (.ff (256 * (row.getD (Int.toNat 0) 0).fmod 16 + row.getD (Int.toNat 1) 0) (List.take (256 * (row.getD 0 0).fmod 16 + row.getD 1 0).toNat (List.drop 2 row)) (row.getD (Int.toNat 1) 0 == 0)) := by
  have hp := row_pos h0
  have e0 : row.getD (Int.toNat 0) 0 = row.getD 0 0 := rfl
  have e1 : row.getD (Int.toNat 1) 0 = row.getD 1 0 := rfl
  have e2 : row.getD (Int.toNat 2) 0 = row.getD 2 0 := rfl
  simp only [e0, e1, e2, fd16, fm16, List.length_drop, sum4] at *
  clear e0 e1 e2
  unfold dueOf
  repeat (first | (refine (if_pos (by omega)).trans ?_) | (refine (if_neg (by omega)).trans ?_))
  all_goals (first | rfl | ((simp only [Option.some.injEq, Due.sf.injEq, Due.ff.injEq, Due.cf.injEq, Due.fc.injEq, true_and, and_true]); first | done | (refine (beq_iff_eq.mpr ?_).symm; omega) | (refine (beq_eq_false_iff_ne.mpr ?_).symm; omega)))
theorem d_ffS2 {row : List Int} (h0 : decide (row = []) = false) (h1 : ¬63 < row.getD (Int.toNat 0) 0) (h2 : (row.getD (Int.toNat 0) 0).fdiv 16 = 1) (h3 : ¬(row.length : Int) < 2) (h4 : (row.getD (Int.toNat 0) 0).fmod 16 ≠ 0) : dueOf row = some (.ff (256 * (row.getD (Int.toNat 0) 0).fmod 16 + row.getD (Int.toNat 1) 0) (List.take (256 * (row.getD 0 0).fmod 16 + row.getD 1 0).toNat (List.drop 2 row)) ((row.getD (Int.toNat 0) 0).fmod 16 == 0)) := by
  have hp := row_pos h0
  have e0 : row.getD (Int.toNat 0) 0 = row.getD 0 0 := rfl
  have e1 : row.getD (Int.toNat 1) 0 = row.getD 1 0 := rfl
  have e2 : row.getD (Int.toNat 2) 0 = row.getD 2 0 := rfl
  simp only [e0, e1, e2, fd16, fm16, List.length_drop, sum4] at *
  clear e0 e1 e2
  unfold dueOf
  repeat (first | (refine (if_pos (by omega)).trans ?_) | (refine (if_neg (by omega)).trans ?_))
  all_goals (first | rfl | ((simp only [Option.some.injEq, Due.sf.injEq, Due.ff.injEq, Due.cf.injEq, Due.fc.injEq, true_and, and_true]); first | done | (refine (beq_iff_eq.mpr ?_).symm; omega) | (refine (beq_eq_false_iff_ne.mpr ?_).symm; omega)))
theorem d_cf {row : List Int} (h0 : decide (row = []) = false) (h1 : ¬63 < row.getD (Int.toNat 0) 0) (h2 : (row.getD (Int.toNat 0) 0).fdiv 16 ≠ 0) (h3 : (row.getD (Int.toNat 0) 0).fdiv 16 ≠ 1) (h4 : (row.getD (Int.toNat 0) 0).fdiv 16 = 2) : dueOf row = some (.cf ((row.getD (Int.toNat 0) 0).fmod 16) (List.drop 1 row)) := by
  have hp := row_pos h0
  have e0 : row.getD (Int.toNat 0) 0 = row.getD 0 0 := rfl
  have e1 : row.getD (Int.toNat 1) 0 = row.getD 1 0 := rfl
  have e2 : row.getD (Int.toNat 2) 0 = row.getD 2 0 := rfl
  simp only [e0, e1, e2, fd16, fm16, List.length_drop, sum4] at *
  clear e0 e1 e2
  unfold dueOf
  repeat (first | (refine (if_pos (by omega)).trans ?_) | (refine (if_neg (by omega)).trans ?_))
  all_goals (first | rfl | ((simp only [Option.some.injEq, Due.sf.injEq, Due.ff.injEq, Due.cf.injEq, Due.fc.injEq, true_and, and_true]); first | done | (refine (beq_iff_eq.mpr ?_).symm; omega) | (refine (beq_eq_false_iff_ne.mpr ?_).symm; omega)))
theorem dn_fc1 {row : List Int} (h0 : decide (row = []) = false) (h1 : ¬63 < row.getD (Int.toNat 0) 0) (h2 : (row.getD (Int.toNat 0) 0).fdiv 16 ≠ 0) (h3 : (row.getD (Int.toNat 0) 0).fdiv 16 ≠ 1) (h4 : (row.getD (Int.toNat 0) 0).fdiv 16 ≠ 2) (h5 : (row.length : Int) < 3) : dueOf row = none := by
  have hp := row_pos h0
  have e0 : row.getD (Int.toNat 0) 0 = row.getD 0 0 := rfl
  have e1 : row.getD (Int.toNat 1) 0 = row.getD 1 0 := rfl
  have e2 : row.getD (Int.toNat 2) 0 = row.getD 2 0 := rfl
  simp only [e0, e1, e2, fd16, fm16, List.length_drop, sum4] at *
  clear e0 e1 e2
  unfold dueOf
  repeat (first | (refine (if_pos (by omega)).trans ?_) | (refine (if_neg (by omega)).trans ?_))
  all_goals (first | rfl | omega)
theorem dn_fc2 {row : List Int} (h0 : decide (row = []) = false) (h1 : ¬63 < row.getD (Int.toNat 0) 0) (h2 : (row.getD (Int.toNat 0) 0).fdiv 16 ≠ 0) (h3 : (row.getD (Int.toNat 0) 0).fdiv 16 ≠ 1) (h4 : (row.getD (Int.toNat 0) 0).fdiv 16 ≠ 2) (h5 : ¬(row.length : Int) < 3) (h6 : 2 < (row.getD (Int.toNat 0) 0).fmod 16) : dueOf row = none := by
  have hp := row_pos h0
  have e0 : row.getD (Int.toNat 0) 0 = row.getD 0 0 := rfl
  have e1 : row.getD (Int.toNat 1) 0 = row.getD 1 0 := rfl
  have e2 : row.getD (Int.toNat 2) 0 = row.getD 2 0 := rfl
  simp only [e0, e1, e2, fd16, fm16, List.length_drop, sum4] at *
  clear e0 e1 e2
  unfold dueOf
  repeat (first | (refine (if_pos (by omega)).trans ?_) | (refine (if_neg (by omega)).trans ?_))
  all_goals (first | rfl | omega)
theorem dn_fc3 {row : List Int} (h0 : decide (row = []) = false) (h1 : ¬63 < row.getD (Int.toNat 0) 0) (h2 : (row.getD (Int.toNat 0) 0).fdiv 16 ≠ 0) (h3 : (row.getD (Int.toNat 0) 0).fdiv 16 ≠ 1) (h4 : (row.getD (Int.toNat 0) 0).fdiv 16 ≠ 2) (h5 : ¬(row.length : Int) < 3) (h6 : ¬2 < (row.getD (Int.toNat 0) 0).fmod 16) (h7 : 127 < row.getD (Int.toNat 2) 0) (h8 : row.getD (Int.toNat 2) 0 < 241) : dueOf row = none := by
  have hp := row_pos h0
  have e0 : row.getD (Int.toNat 0) 0 = row.getD 0 0 := rfl
  have e1 : row.getD (Int.toNat 1) 0 = row.getD 1 0 := rfl
  have e2 : row.getD (Int.toNat 2) 0 = row.getD 2 0 := rfl
  simp only [e0, e1, e2, fd16, fm16, List.length_drop, sum4] at *
  clear e0 e1 e2
  unfold dueOf
  repeat (first | (refine (if_pos (by omega)).trans ?_) | (refine (if_neg (by omega)).trans ?_))
  all_goals (first | rfl | omega)
theorem dn_fc4 {row : List Int} (h0 : decide (row = []) = false) (h1 : ¬63 < row.getD (Int.toNat 0) 0) (h2 : (row.getD (Int.toNat 0) 0).fdiv 16 ≠ 0) (h3 : (row.getD (Int.toNat 0) 0).fdiv 16 ≠ 1) (h4 : (row.getD (Int.toNat 0) 0).fdiv 16 ≠ 2) (h5 : ¬(row.length : Int) < 3) (h6 : ¬2 < (row.getD (Int.toNat 0) 0).fmod 16) (h7 : 249 < row.getD (Int.toNat 2) 0) : dueOf row = none := by
  have hp := row_pos h0
  have e0 : row.getD (Int.toNat 0) 0 = row.getD 0 0 := rfl
  have e1 : row.getD (Int.toNat 1) 0 = row.getD 1 0 := rfl
  have e2 : row.getD (Int.toNat 2) 0 = row.getD 2 0 := rfl
  simp only [e0, e1, e2, fd16, fm16, List.length_drop, sum4] at *
  clear e0 e1 e2
  unfold dueOf
  repeat (first | (refine (if_pos (by omega)).trans ?_) | (refine (if_neg (by omega)).trans ?_))
  all_goals (first | rfl | omega)
theorem d_fc1 {row : List Int} (h0 : decide (row = []) = false) (h1 : ¬63 < row.getD (Int.toNat 0) 0) (h2 : (row.getD (Int.toNat 0) 0).fdiv 16 ≠ 0) (h3 : (row.getD (Int.toNat 0) 0).fdiv 16 ≠ 1) (h4 : (row.getD (Int.toNat 0) 0).fdiv 16 ≠ 2) (h5 : ¬(row.length : Int) < 3) (h6 : ¬2 < (row.getD (Int.toNat 0) 0).fmod 16) (h7 : ¬127 < row.getD (Int.toNat 2) 0) : dueOf row = some (.fc (row.getD (Int.toNat 1) 0) (row.getD (Int.toNat 2) 0) ((row.getD (Int.toNat 0) 0).fmod 16)) := by
  have hp := row_pos h0
  have e0 : row.getD (Int.toNat 0) 0 = row.getD 0 0 := rfl
  have e1 : row.getD (Int.toNat 1) 0 = row.getD 1 0 := rfl
  have e2 : row.getD (Int.toNat 2) 0 = row.getD 2 0 := rfl
  simp only [e0, e1, e2, fd16, fm16, List.length_drop, sum4] at *
  clear e0 e1 e2
  unfold dueOf
  repeat (first | (refine (if_pos (by omega)).trans ?_) | (refine (if_neg (by omega)).trans ?_))
  all_goals (first | rfl | ((simp only [Option.some.injEq, Due.sf.injEq, Due.ff.injEq, Due.cf.injEq, Due.fc.injEq, true_and, and_true]); first | done | (refine (beq_iff_eq.mpr ?_).symm; omega) | (refine (beq_eq_false_iff_ne.mpr ?_).symm; omega)))
theorem d_fc2 {row : List Int} (h0 : decide (row = []) = false) (h1 : ¬63 < row.getD (Int.toNat 0) 0) (h2 : (row.getD (Int.toNat 0) 0).fdiv 16 ≠ 0) (h3 : (row.getD (Int.toNat 0) 0).fdiv 16 ≠ 1) (h4 : (row.getD (Int.toNat 0) 0).fdiv 16 ≠ 2) (h5 : ¬(row.length : Int) < 3) (h6 : ¬2 < (row.getD (Int.toNat 0) 0).fmod 16) (h7 : ¬row.getD (Int.toNat 2) 0 < 241) (h8 : ¬249 < row.getD (Int.toNat 2) 0) : dueOf row = some (.fc (row.getD (Int.toNat 1) 0) (row.getD (Int.toNat 2) 0) ((row.getD (Int.toNat 0) 0).fmod 16)) := by
  have hp := row_pos h0
  have e0 : row.getD (Int.toNat 0) 0 = row.getD 0 0 := rfl
  have e1 : row.getD (Int.toNat 1) 0 = row.getD 1 0 := rfl
  have e2 : row.getD (Int.toNat 2) 0 = row.getD 2 0 := rfl
  simp only [e0, e1, e2, fd16, fm16, List.length_drop, sum4] at *
  clear e0 e1 e2
  unfold dueOf
  repeat (first | (refine (if_pos (by omega)).trans ?_) | (refine (if_neg (by omega)).trans ?_))
  all_goals (first | rfl | ((simp only [Option.some.injEq, Due.sf.injEq, Due.ff.injEq, Due.cf.injEq, Due.fc.injEq, true_and, and_true]); first | done | (refine (beq_iff_eq.mpr ?_).symm; omega) | (refine (beq_eq_false_iff_ne.mpr ?_).symm; omega)))
end Mine
end S_Spec

section S_Read
open PySem PySem.W PyProof.Rows PySem.Calls
namespace Mine
local macro_rules | `(tactic| k_mem) => `(tactic| ((repeat (first | exact List.Mem.head _ | refine List.Mem.tail _ ?_)); done))
local macro_rules | `(tactic| cell_enter) => `(tactic| (refine' code_defC ?k1 ?k2 ?k3 ?k4 ?k5 ?kA ?kF ?kK ?k6 ?k7 ?k8 ?k9 ?kB ?kD ?_ ?c2 ?c3 ?c4; (case kA => exact rfl); (case kF => exact rfl); (case kK => assumption); (case k1 => k_asm); (case k2 => k_asm); (case k3 => k_asm); (case k4 => k_asm); (case k5 => k_asm); (case k6 => k_is); (case k7 => k_is); (case k8 => ktr_room); (case k9 => first | exact BindsTo.of_eq rfl | exact binds_K (by k_in) rfl (by k_is) rfl rfl rfl); (case kB => exact rfl); (case kD => decide +kernel); (case c2 => exact rfl); (case c3 => exact rfl); (case c4 => exact rfl); k_whole; intro g' L' h' tk' cells' FG' F' N' Y' B' X' T' l1; (try k_lt l1); k_cells Y'; (try simp only [List.cons_append, List.nil_append] at N'); (try dsimp only); (try k_lift B'); (try k_fold)))
local macro_rules | `(tactic| units_room) => `(tactic| ((try simp only [units_under_make, units_in1, units_deeper, Around.mark_units, cLine_is]); omega))
local macro_rules | `(tactic| k_units) => `(tactic| ((try simp only [units_under_make, units_in1, units_deeper, Around.mark_units, cLine_is]); omega))
local macro_rules | `(tactic| k_room) => `(tactic| ((try simp only [depth_under_make, depth_under_kw, depth_in1, depth_deeper, recursionLimit]); omega))
local macro_rules | `(tactic| ktr_room) => `(tactic| ((try simp only [depth_under_make, depth_under_kw, depth_in1, depth_deeper, recursionLimit]); omega))
local macro_rules | `(tactic| news_mem) => `(tactic| k_mem)

theorem drop_bits {os : List Int} (h : ∀ x ∈ os, 0 ≤ x ∧ x < 256) (n i : Nat) (y : Int) : IntMulOk ((os.drop n).getD i 0) y :=
  IntMulOk.of_left (intBits_le_64 (by have := (drop_bd h n i).1; omega) (by have := (drop_bd h n i).2; omega))
local macro_rules | `(tactic| walk_at "ite") => `(tactic| (k_here; k_openite; k_dflt (first | (refine ite_pos (by ((try simp only [decide_eq_true_eq, beq_iff_eq, bne_iff_ne]); omega)) ?_) | (refine ite_neg (by ((try simp only [decide_eq_true_eq, beq_iff_eq, bne_iff_ne]); omega)) ?_))))
local macro_rules | `(tactic| walk_at "binaryOp Mult int int") => `(tactic| (k_here; k_dflt (refine PyProof.Rows.mul_int ?_ (drop_bits (by with_reducible assumption) _ _ _))))
local macro_rules | `(tactic| walk_at "subscriptTail") => `(tactic| (k_here; (with_reducible show wpAny _ _ (subscriptTail _ _ (Value.ref _) (Value.int _ _)) _ _ _); k_dflt ((with_reducible refine' item_anyK ?k1 ?k2 ?k3 ?k4 ?k5 ?_ ?k6); (case k1 => (refine' News.isList ?kn ?km; (case kn => with_reducible assumption); (case km => k_mem))); (case k2 => with_reducible assumption); (case k3 => omega); (case k4 => first | omega | exact row_pos (by with_reducible assumption)); (case k5 => omega); (case k6 => with_unfolding_all rfl); k_whole; intro _)))
local macro_rules | `(tactic| walk_at "subscriptTail Name Constant ref int") => `(tactic| walk_at "subscriptTail")
local macro_rules | `(tactic| walk_at "subscriptTail Name BinOp ref int") => `(tactic| walk_at "subscriptTail")

theorem rest_ne {x L' d : Nat} {rest : List (Addr × Obj)} (h : @LT.lt Nat _ x L' ∧ AllLt L' rest) (hd : @LE.le Nat _ L' d) : ∀ p ∈ rest, p.1 ≠ d := fun p hp => Nat.ne_of_lt (Nat.lt_of_lt_of_le (kst_ltOf h.2 p hp) hd)
local macro_rules | `(tactic| k_all) => `(tactic| (k_dflt (refine' rest_ne ?ka ?kb; (case ka => with_reducible assumption); (case kb => omega))))
theorem news_cons {h₀ h : Heap} {L : Addr} {x : Addr × Obj} {big small : List (Addr × Obj)} (N : News h₀ L h big) (hm : x ∈ big) (r : News h₀ L h small) : News h₀ L h (x :: small) := fun p hp => by
  rcases List.mem_cons.mp hp with e | hp
  · rw [e]; exact N x hm
  · exact r p hp
theorem news_tail {h₀ h : Heap} {L : Addr} {big small : List (Addr × Obj)} (N : News h₀ L h big) (hs : ∀ p ∈ small, p ∈ big) : News h₀ L h small := fun p hp => N p (hs p hp)

local macro_rules | `(tactic| cell_eq) => `(tactic| (first | exact dn_out (by with_reducible assumption) | exact dn_empty (by with_reducible assumption) | exact dn_kind (by with_reducible assumption) (by with_reducible assumption) | exact dn_sfL1 (by with_reducible assumption) (by with_reducible assumption) (by with_reducible assumption) (by with_reducible assumption) (by with_reducible assumption) (by with_reducible assumption) (by with_reducible assumption) | exact dn_sfL2 (by with_reducible assumption) (by with_reducible assumption) (by with_reducible assumption) (by with_reducible assumption) (by with_reducible assumption) (by with_reducible assumption) | exact dn_sfL3 (by with_reducible assumption) (by with_reducible assumption) (by with_reducible assumption) (by with_reducible assumption) (by with_reducible assumption) | exact dn_sfS (by with_reducible assumption) (by with_reducible assumption) (by with_reducible assumption) (by with_reducible assumption) (by with_reducible assumption) | exact dn_ff1 (by with_reducible assumption) (by with_reducible assumption) (by with_reducible assumption) (by with_reducible assumption) | exact dn_ff2 (by with_reducible assumption) (by with_reducible assumption) (by with_reducible assumption) (by with_reducible assumption) (by with_reducible assumption) (by with_reducible assumption) (by with_reducible assumption) | exact dn_fc1 (by with_reducible assumption) (by with_reducible assumption) (by with_reducible assumption) (by with_reducible assumption) (by with_reducible assumption) (by with_reducible assumption) | exact dn_fc2 (by with_reducible assumption) (by with_reducible assumption) (by with_reducible assumption) (by with_reducible assumption) (by with_reducible assumption) (by with_reducible assumption) (by with_reducible assumption) | exact dn_fc3 (by with_reducible assumption) (by with_reducible assumption) (by with_reducible assumption) (by with_reducible assumption) (by with_reducible assumption) (by with_reducible assumption) (by with_reducible assumption) (by with_reducible assumption) (by with_reducible assumption) | exact dn_fc4 (by with_reducible assumption) (by with_reducible assumption) (by with_reducible assumption) (by with_reducible assumption) (by with_reducible assumption) (by with_reducible assumption) (by with_reducible assumption) (by with_reducible assumption) | exact d_sfL (by with_reducible assumption) (by with_reducible assumption) (by with_reducible assumption) (by with_reducible assumption) (by with_reducible assumption) (by with_reducible assumption) (by with_reducible assumption) | exact d_sfS (by with_reducible assumption) (by with_reducible assumption) (by with_reducible assumption) (by with_reducible assumption) (by with_reducible assumption) | exact d_ffL (by with_reducible assumption) (by with_reducible assumption) (by with_reducible assumption) (by with_reducible assumption) (by with_reducible assumption) (by with_reducible assumption) (by with_reducible assumption) | exact d_ffS1 (by with_reducible assumption) (by with_reducible assumption) (by with_reducible assumption) (by with_reducible assumption) (by with_reducible assumption) (by with_reducible assumption) | exact d_ffS2 (by with_reducible assumption) (by with_reducible assumption) (by with_reducible assumption) (by with_reducible assumption) (by with_reducible assumption) | exact d_cf (by with_reducible assumption) (by with_reducible assumption) (by with_reducible assumption) (by with_reducible assumption) (by with_reducible assumption) | exact d_fc1 (by with_reducible assumption) (by with_reducible assumption) (by with_reducible assumption) (by with_reducible assumption) (by with_reducible assumption) (by with_reducible assumption) (by with_reducible assumption) (by with_reducible assumption) | exact d_fc2 (by with_reducible assumption) (by with_reducible assumption) (by with_reducible assumption) (by with_reducible assumption) (by with_reducible assumption) (by with_reducible assumption) (by with_reducible assumption) (by with_reducible assumption) (by with_reducible assumption)))
local macro_rules | `(tactic| kst_mem) => `(tactic| (intro p9 hp9; (repeat (first | exact hp9 | refine List.Mem.tail _ ?_))))
theorem kind3 {x : Int} (h : 0 ≤ x ∧ x < 256) (a : ¬63 < x) (b : x.fdiv 16 ≠ 0) (c : x.fdiv 16 ≠ 1) (d : x.fdiv 16 ≠ 2) : x.fdiv 16 = 3 := by
  rw [fd16] at *
  omega
theorem abs_sum {row : List Int} (h : 0 ≤ val4 row ∧ val4 row < 4294967296) (hs : (List.map (fun k' : Int => row.getD (2 + k').toNat 0 * 256 ^ (3 - k').toNat) (PySem.W.rangeKs 0 ((4 : Int) - 0).toNat)).sum < 0) : False := by
  rw [sum4] at hs
  omega
theorem abs_len {row : List Int} (h : 0 ≤ row.getD 0 0 ∧ row.getD 0 0 < 256) (h1 : 0 ≤ row.getD 1 0 ∧ row.getD 1 0 < 256) (hs : 256 * (row.getD (Int.toNat 0) 0).fmod 16 + row.getD (Int.toNat 1) 0 < 0) : False := by
  have e0 : row.getD (Int.toNat 0) 0 = row.getD 0 0 := rfl
  have e1 : row.getD (Int.toNat 1) 0 = row.getD 1 0 := rfl
  rw [e0, e1, fm16] at hs
  omega
abbrev tupo (vs : List Value) (n : Nat) : Obj := { cls := .type "tuple", data := .seq vs.toArray n }

set_option maxRecDepth 100000 in
set_option maxHeartbeats 8000000 in
theorem read_ok {w : World} {loose : List Str} {mean : ExcName → Option Value} {mg mb : Str → Option Value}
    (dp un : Nat) (gd : Option (List Code)) (cn : Str) (cs : Scope) (a : Addr) (ccd : Value) (cl : List (Str × Addr)) (outer : List Env) (A₀ : Around) (base h₀ : Heap) (L : Addr) (m : Str → Option Value) (s : Shared) (Q E : Value → Shared → Prop)
    (o : Addr) (vs : List Value) (os : List Int) (ahead : Int) (tk : Tok) (n : Nat) (rest : List (Addr × Obj))
    (B : Below A₀ base outer h₀) (F : Fr h₀ L s.heap m) (X : (Mine.hd.heap_39 w.params).In h₀) (N : News h₀ L s.heap ((o, listOf vs.toArray n) :: rest)) (T : Top Mine.hd.view_39 loose mean mg mb h₀) (hk : cs.kind = .function)
    (hI : IntsAre vs os) (h2 : os.length ≤ 64) (hb : ∀ x ∈ os, 0 ≤ x ∧ x < 256)
    (a0 : 0 ≤ ahead) (a1 : ahead ≤ 1) (hd : dp ≤ 500) (hu : un ≤ 5000)
    (hnone : dueOf (os.drop ahead.toNat) = none → ∀ (h' : Heap) (tk' : Nat), Fr h₀ L h' m → News h₀ L h' ((o, listOf vs.toArray n) :: rest) → Q .none { s with heap := h', toks := tk' })
    (hsf : ∀ (k len : Int) (data : List Int) (long : Bool), dueOf (os.drop ahead.toNat) = some (.sf len data long) → k = 0 → ∀ (h' : Heap) (tk' : Nat) (tp dl : Addr) (dvs : List Value) (t1 t2 : Tok) (n1 n2 : Nat), Fr h₀ L h' m →
      News h₀ L h' ((tp, tupo [.int k t1, .int len t2, .ref dl, .none, .none, .none, .none, .bool long] n2) :: (dl, listOf dvs.toArray n1) :: (o, listOf vs.toArray n) :: rest) → IntsAre dvs data → Q (.ref tp) { s with heap := h', toks := tk' })
    (hff : ∀ (k len : Int) (data : List Int) (long : Bool), dueOf (os.drop ahead.toNat) = some (.ff len data long) → k = 1 → ∀ (h' : Heap) (tk' : Nat) (tp dl : Addr) (dvs : List Value) (t1 t2 : Tok) (n1 n2 : Nat), Fr h₀ L h' m →
      News h₀ L h' ((tp, tupo [.int k t1, .int len t2, .ref dl, .none, .none, .none, .none, .bool long] n2) :: (dl, listOf dvs.toArray n1) :: (o, listOf vs.toArray n) :: rest) → IntsAre dvs data → Q (.ref tp) { s with heap := h', toks := tk' })
    (hcf : ∀ (k seq : Int) (data : List Int), dueOf (os.drop ahead.toNat) = some (.cf seq data) → k = 2 → ∀ (h' : Heap) (tk' : Nat) (tp dl : Addr) (dvs : List Value) (t1 t2 : Tok) (n1 n2 : Nat), Fr h₀ L h' m →
      News h₀ L h' ((tp, tupo [.int k t1, .none, .ref dl, .none, .none, .int seq t2, .none, .bool false] n2) :: (dl, listOf dvs.toArray n1) :: (o, listOf vs.toArray n) :: rest) → IntsAre dvs data → Q (.ref tp) { s with heap := h', toks := tk' })
    (hfc : ∀ (k bs st fs : Int), dueOf (os.drop ahead.toNat) = some (.fc bs st fs) → k = 3 → ∀ (h' : Heap) (tk' : Nat) (tp dl : Addr) (dvs : List Value) (t1 t2 t3 t4 : Tok) (n1 n2 : Nat), Fr h₀ L h' m →
      News h₀ L h' ((tp, tupo [.int k t1, .none, .ref dl, .int bs t2, .int st t3, .none, .int fs t4, .bool false] n2) :: (dl, listOf dvs.toArray n1) :: (o, listOf vs.toArray n) :: rest) → IntsAre dvs [] → Q (.ref tp) { s with heap := h', toks := tk' }) :
    wpAny (model PySem.Challenge.rw_ff0001_01.row.prog w) (ktrTop dp un gd cn cs L a ccd cl outer) (call (.ref 139) [.ref o, .int ahead tk]) Q E s := by
  revert X
  k_fill
  intro X
  have hb0 := drop_bd hb ahead.toNat 0
  have hb1 := drop_bd hb ahead.toNat 1
  have hb2 := drop_bd hb ahead.toNat 2
  have hf0 := fd16 ((os.drop ahead.toNat).getD 0 0)
  have hm0 := fm16 ((os.drop ahead.toNat).getD 0 0)
  have hv4 := val4_nonneg (drop_all hb ahead.toNat)
  refine wpAny_call ?_
  k_dflt cell_enter
  k_steps
  all_goals (rename News h₀ L _ _ => nE; rename Fr h₀ L _ _ => fE)
  all_goals (first
    | (refine hnone ?d _ _ fE ?n; (case d => cell_eq); (case n => exact news_cons nE (by k_mem) (news_tail nE (by kst_mem))))
    | exact (abs_sum hv4 (by with_reducible assumption)).elim
    | exact (abs_len hb0 hb1 (by with_reducible assumption)).elim
    | (refine' hsf _ _ _ _ ?d ?k _ _ _ _ _ _ _ _ _ fE ?n ?i; (case d => cell_eq); (case n => exact news_cons nE (by k_mem) (news_cons nE (by k_mem) (news_cons nE (by k_mem) (news_tail nE (by kst_mem))))); (case i => with_reducible assumption); (case k => with_reducible assumption))
    | (refine' hff _ _ _ _ ?d ?k _ _ _ _ _ _ _ _ _ fE ?n ?i; (case d => cell_eq); (case n => exact news_cons nE (by k_mem) (news_cons nE (by k_mem) (news_cons nE (by k_mem) (news_tail nE (by kst_mem))))); (case i => with_reducible assumption); (case k => with_reducible assumption))
    | (refine' hcf _ _ _ ?d ?k _ _ _ _ _ _ _ _ _ fE ?n ?i; (case d => cell_eq); (case n => exact news_cons nE (by k_mem) (news_cons nE (by k_mem) (news_cons nE (by k_mem) (news_tail nE (by kst_mem))))); (case i => with_reducible assumption); (case k => with_reducible assumption))
    | (refine' hfc _ _ _ _ ?d ?k _ _ _ _ _ _ _ _ _ _ _ fE ?n ?i; (case d => cell_eq); (case n => exact news_cons nE (by k_mem) (news_cons nE (by k_mem) (news_cons nE (by k_mem) (news_tail nE (by kst_mem))))); (case i => exact IntsAre.nil); (case k => exact kind3 hb0 (by with_reducible assumption) (by with_reducible assumption) (by with_reducible assumption) (by with_reducible assumption))))
end Mine
end S_Read

section S_Bn
set_option maxRecDepth 100000
namespace Mine
open PySem
open Sem (wp)
open PyProof.Rows (IntsAre)
theorem bn_typeCall : checkTypeCall "bytes" ⟨[], []⟩ = pure () := by kernel_rfl
theorem bn_newCall : checkBuiltinCall "bytes.__new__" ⟨[.type "bytes"], []⟩ = pure () := by kernel_rfl
theorem bn_bind : Builtin.Bytes.bindOptional "bytes.__new__" "bytes" ["source", "encoding", "errors"] [] [] = pure [none, none, none] := by kernel_rfl
theorem bn_args (a : Value) : argsOk "object.__init__" ⟨[a], []⟩ := PySem.F.args_object_init_1 a
theorem bytes_nil {prog : Program} {w : World} {A : Around} {E : Value → Shared → Prop} {s : Shared} {Q : Value → Shared → Prop} (h : Q (.bytes #[] s.toks) { s with toks := s.toks + 1 }) :
    wpAny (model prog w) A (call (.type "bytes") [] []) Q E s := by
  refine callType_codes (Q₁ := fun obj s₁ => s₁.TypeIs obj "bytes" ∧ Q obj s₁) F.bm_called bn_typeCall F.entry_object_init ?_ fun obj s₁ h₁ => ?_
  · refine codeAny_of_tree ?_
    show wpAny _ A.in1.in1 (do checkBuiltinCall "bytes.__new__" ⟨[.type "bytes"], []⟩; again (.builtin "bytes.__new__" ⟨[.type "bytes"], []⟩)) _ _ s
    refine wpAny_bind (wpAny_of_eq bn_newCall (wpAny_pure ⟨plainId_quiet F.bm_plain _, codeAny_builtin F.bm_entry ?_⟩))
    rw [Around.under_plainId F.bm_plain _]
    unfold Builtin.«bytes.__new__»
    refine wpAny_bind (wpAny_of_eq (a := true) rfl ?_)
    refine bm_if_false rfl ?_
    refine wpAny_bind (wpAny_of_eq F.bm_sub ?_)
    refine bm_if_false rfl ?_
    refine wpAny_bind (wpAny_of_eq bn_bind ?_)
    refine wpAny_bind (wpAny_of_eq (a := ()) rfl ?_)
    refine wpAny_bind (wpAny_of_eq (a := ()) rfl ?_)
    refine bm_if_false rfl ?_
    refine wpAny_bind ?_
    show wpAny _ _ (mkBytes #[]) _ _ _
    unfold mkBytes
    rw [if_neg (show ¬ ((#[] : Array UInt8).size > sizeLine) from by decide)]
    refine wpAny_bind (wpAny_fresh (wpAny_pure ?_))
    refine wpAny_of_eq (a := Fin.done (.ret (.bytes #[] s.toks))) rfl ?_
    exact ⟨PySem.W.typeIs_bytes _ _ _, h⟩
  · exact ⟨h₁.1, bn_args obj, object_init_meets F.bm_called.init.lookup F.bm_called.made (by decide) prog w A.in1 _ s₁ ⟨h₁.1, rfl, h₁.2⟩⟩
end Mine
end S_Bn

section S_Bits
open PySem PySem.W PyProof.Rows PySem.Calls
namespace Mine
theorem bitOr_and (x y : Int) : Builtin.bitOr x y = x + y - Builtin.bitAnd x y := by
  have h := bitXor_and x y
  unfold Builtin.bitXor at h
  omega
theorem band_disj {a y : Int} (k : Nat) (ha : 0 ≤ a) (h0 : 0 ≤ y) (h1 : y < 2 ^ k) : Builtin.bitAnd (a * 2 ^ k) y = 0 := by
  obtain ⟨n, rfl⟩ := Int.eq_ofNat_of_zero_le ha
  obtain ⟨m, rfl⟩ := Int.eq_ofNat_of_zero_le h0
  have e : ((n : Int) * 2 ^ k) = ((n * 2 ^ k : Nat) : Int) := by simp
  have hm : m < 2 ^ k := by
    have : ((m : Nat) : Int) < ((2 ^ k : Nat) : Int) := by simpa using h1
    omega
  rw [e]
  unfold Builtin.bitAnd
  rw [decide_eq_true (Int.natCast_nonneg _), decide_eq_true (Int.natCast_nonneg _)]
  show ((((n * 2 ^ k : Nat) : Int).toNat &&& ((m : Nat) : Int).toNat : Nat) : Int) = 0
  rw [Int.toNat_natCast, Int.toNat_natCast]
  have hm' : m = m &&& (2 ^ k - 1) := by rw [Nat.and_two_pow_sub_one_eq_mod, Nat.mod_eq_of_lt hm]
  rw [hm', Nat.and_comm m, ← Nat.and_assoc, Nat.and_two_pow_sub_one_eq_mod, Nat.mul_mod_left, Nat.zero_and]
  rfl
theorem bor_disj {a y : Int} (k : Nat) (ha : 0 ≤ a) (h0 : 0 ≤ y) (h1 : y < 2 ^ k) : Builtin.bitOr (a * 2 ^ k) y = a * 2 ^ k + y := by
  rw [bitOr_and, band_disj k ha h0 h1]
  omega
theorem band_hi {x : Int} (h0 : 0 ≤ x) (h1 : x < 256) : Builtin.bitAnd (x.fdiv (2 ^ Int.toNat 4)) 15 = x.fdiv 16 := by
  have e : (2 : Int) ^ Int.toNat 4 = 16 := rfl
  rw [bitAnd_m4, e, fd16]
  omega
theorem band_lo (x : Int) : Builtin.bitAnd x 15 = x.fmod 16 := by rw [bitAnd_m4, fm16]
theorem fmod_bd (x : Int) : 0 ≤ x.fmod 16 ∧ x.fmod 16 < 16 := by rw [fm16]; omega
theorem or_len {x y : Int} (h0 : 0 ≤ y) (h1 : y < 256) : Builtin.bitOr (x.fmod 16 * 2 ^ Int.toNat 8) y = 256 * x.fmod 16 + y := by
  rw [bor_disj _ (fmod_bd x).1 h0 (by exact h1)]
  have e : (2 : Int) ^ Int.toNat 8 = 256 := rfl
  rw [e]
  omega
theorem or_32 {a b : Int} (a0 : 0 ≤ a) (b0 : 0 ≤ b) (b1 : b < 256) : Builtin.bitOr (a * 2 ^ Int.toNat 24) (b * 2 ^ Int.toNat 16) = a * 16777216 + b * 65536 := by
  have e : (2 : Int) ^ Int.toNat 16 = 65536 := rfl
  have e' : (2 : Int) ^ Int.toNat 24 = 16777216 := rfl
  rw [bor_disj _ a0 (by rw [e]; omega) (by rw [e, e']; omega), e, e']
theorem or_16 {a b c : Int} (a0 : 0 ≤ a) (b0 : 0 ≤ b) (c0 : 0 ≤ c) (c1 : c < 256) : Builtin.bitOr (a * 16777216 + b * 65536) (c * 2 ^ Int.toNat 8) = a * 16777216 + b * 65536 + c * 256 := by
  have e : (2 : Int) ^ Int.toNat 8 = 256 := rfl
  have e' : a * 16777216 + b * 65536 = (a * 256 + b) * 2 ^ 16 := by
    have : (2 : Int) ^ 16 = 65536 := rfl
    rw [this]; omega
  rw [e', bor_disj 16 (by omega) (by rw [e]; omega) (by rw [e]; show c * 256 < 65536; omega), e]
theorem or_8 {a b c d : Int} (a0 : 0 ≤ a) (b0 : 0 ≤ b) (c0 : 0 ≤ c) (d0 : 0 ≤ d) (d1 : d < 256) : Builtin.bitOr (a * 16777216 + b * 65536 + c * 256) (d * 2 ^ Int.toNat 0) = a * 16777216 + b * 65536 + c * 256 + d := by
  have e : (2 : Int) ^ Int.toNat 0 = 1 := rfl
  have e' : a * 16777216 + b * 65536 + c * 256 = (a * 65536 + b * 256 + c) * 2 ^ 8 := by
    have : (2 : Int) ^ 8 = 256 := rfl
    rw [this]; omega
  rw [e', bor_disj 8 (by omega) (by rw [e]; omega) (by rw [e]; show d * 1 < 256; omega), e, Int.mul_one]

theorem clip_drop {ks : List Int} {lo : Int} (h : 0 ≤ lo) : (ks.drop (clipAt ks.length lo)).take (ks.length - clipAt ks.length lo) = ks.drop lo.toNat := by
  have hc := clipAt_min (n := ks.length) h
  by_cases hl : (ks.length : Int) < lo
  · rw [if_pos hl] at hc
    have e : clipAt ks.length lo = ks.length := by omega
    rw [e, Nat.sub_self, List.take_zero, List.drop_eq_nil_of_le (by omega)]
  · rw [if_neg hl] at hc
    have e : clipAt ks.length lo = lo.toNat := by omega
    rw [e, List.take_of_length_le (by rw [List.length_drop]; omega)]
theorem clip_take {ks : List Int} {hi : Int} (h : 0 ≤ hi) : ks.take (clipAt ks.length hi) = ks.take hi.toNat := by
  have hc := clipAt_min (n := ks.length) h
  by_cases hl : (ks.length : Int) < hi
  · rw [if_pos hl] at hc
    have e : clipAt ks.length hi = ks.length := by omega
    rw [e, List.take_of_length_le (Nat.le_refl _), List.take_of_length_le (by omega)]
  · rw [if_neg hl] at hc
    have e : clipAt ks.length hi = hi.toNat := by omega
    rw [e]

section
variable {prog : Program} {w : World} {A : Around} {E : Value → Shared → Prop} {s : Shared} {a b c : Int} {t u : Tok} {Q : Value → Shared → Prop}
theorem and_as (e : Builtin.bitAnd a b = c) (h : Q (.int c s.toks) { s with toks := s.toks + 1 }) : wpAny (model prog w) A (binaryOp .BitAnd (.int a t) (.int b u)) Q E s := by
  subst e
  exact PyProof.Rows.and_int h
theorem or_as (e : Builtin.bitOr a b = c) (h : Q (.int c s.toks) { s with toks := s.toks + 1 }) : wpAny (model prog w) A (binaryOp .BitOr (.int a t) (.int b u)) Q E s := by
  subst e
  exact PyProof.Rows.or_int h
end
section
variable {prog : Program} {w : World} {A A₀ : Around} {E : Value → Shared → Prop} {s : Shared} {K : Frag} {x C dx L : Addr} {h₀ : Heap} {m : Str → Option Value} {ox : Obj} {od : Option Obj} {name : Str}
theorem findObj_clsS {a : Value} (hc' : isClsIn K C = true) (hh : hasDictIn K C = false) (ha : findIn K (.ref C) name = some (some a)) (hn : specialIn K a "__get__" = some none) (hv : handedIn a = true) (hc : copiedNames.contains name = false) :
    findObj K C od name = some (.value a) := by
  obtain ⟨cd, hcd⟩ := Option.isSome_iff_exists.mp hc'
  have hd : cd.hasDict = false := by
    unfold hasDictIn at hh
    rw [hcd] at hh
    exact hh
  unfold findObj
  have ho : PySem.W.ownOf cd od name = some none := by unfold PySem.W.ownOf; rw [if_neg (by rw [hd]; decide)]
  rw [hcd, Option.bind_some, ha, Option.bind_some]
  simp only [hn, Option.bind_some, ho, hc, Bool.false_and, Bool.false_eq_true, if_false, hv, if_true]
theorem get_clsS {expr : Bool} {Q : Value → Shared → Prop} {a : Value} (F : Fr h₀ L s.heap m) (X₀ : K.In h₀) (I : InstAt s.heap x ox C od) (hg : plainGet K C name = true) (hc' : isClsIn K C = true) (hh : hasDictIn K C = false)
    (ha : findIn K (.ref C) name = some (some a)) (hn : specialIn K a "__get__" = some none) (hv : handedIn a = true) (hc : copiedNames.contains name = false) (h : Q a { s with toks := s.toks + 1 }) :
    wpAny (model prog w) A (getAttr (.ref x) name expr) Q E s :=
  get_value (X₀.keeps F.keep) I (plainGet_of hg).1 (findObj_clsS hc' hh ha hn hv hc) hv h
end
theorem raisedN_sub {base : Heap} {l : List Env} {e : Addr} {cls : Value} {news small : List (Addr × Obj)} {h : Heap} (R : RaisedN base l e cls news h) (hs : ∀ p ∈ small, p ∈ news) : RaisedN base l e cls small h := by
  obtain ⟨B, a0, h1, h2, h3⟩ := R
  exact ⟨B, a0, h1, fun q hq => h2 q (hs q hq), h3⟩
end Mine
end S_Bits

section S_Fmt
open PySem PySem.W PyProof.Rows PySem.Calls
set_option maxRecDepth 100000
namespace Mine
section
variable {prog : Program} {w : World} {A : Around} {E : Value → Shared → Prop} {s : Shared} {t u : Tok} {n : Int} {Q : Value → Shared → Prop}
theorem fmt_kind (h0 : 0 ≤ n) (h1 : n < 10 ^ 10) (h : ∀ T t' k, Q (.str T t') { s with toks := k }) :
    wpAny (model prog w) A (binaryOp .Mod (.str (Str.ofString "Received message with unknown frame type %d") t) (.int n u)) Q E s := by
  refine' KPc.mod_int ?kpcF h0 h1 ?kpcm ?_
  case kpcF => kpc_eq
  case kpcm => kpc_run
  exact fun t' k => h _ t' k
theorem fmt_sfl (h0 : 0 ≤ n) (h1 : n < 10 ^ 10) (h : ∀ T t' k, Q (.str T t') { s with toks := k }) :
    wpAny (model prog w) A (binaryOp .Mod (.str (Str.ofString "Single frame with escape sequence must be at least %d bytes long with this configuration") t) (.int n u)) Q E s := by
  refine' KPc.mod_int ?kpcF h0 h1 ?kpcm ?_
  case kpcF => kpc_eq
  case kpcm => kpc_run
  exact fun t' k => h _ t' k
theorem fmt_ff1 (h0 : 0 ≤ n) (h1 : n < 10 ^ 10) (h : ∀ T t' k, Q (.str T t') { s with toks := k }) :
    wpAny (model prog w) A (binaryOp .Mod (.str (Str.ofString "First frame without escape sequence must be at least %d bytes long with this configuration") t) (.int n u)) Q E s := by
  refine' KPc.mod_int ?kpcF h0 h1 ?kpcm ?_
  case kpcF => kpc_eq
  case kpcm => kpc_run
  exact fun t' k => h _ t' k
theorem fmt_ff2 (h0 : 0 ≤ n) (h1 : n < 10 ^ 10) (h : ∀ T t' k, Q (.str T t') { s with toks := k }) :
    wpAny (model prog w) A (binaryOp .Mod (.str (Str.ofString "First frame with escape sequence must be at least %d bytes long with this configuration") t) (.int n u)) Q E s := by
  refine' KPc.mod_int ?kpcF h0 h1 ?kpcm ?_
  case kpcF => kpc_eq
  case kpcm => kpc_run
  exact fun t' k => h _ t' k
theorem fmt_fc (h0 : 0 ≤ n) (h1 : n < 10 ^ 10) (h : ∀ T t' k, Q (.str T t') { s with toks := k }) :
    wpAny (model prog w) A (binaryOp .Mod (.str (Str.ofString "Flow Control frame must be at least %d bytes with the actual configuration") t) (.int n u)) Q E s := by
  refine' KPc.mod_int ?kpcF h0 h1 ?kpcm ?_
  case kpcF => kpc_eq
  case kpcm => kpc_run
  exact fun t' k => h _ t' k
end
section
variable {prog : Program} {w : World} {A : Around} {E : Value → Shared → Prop} {s : Shared} {t u v : Tok} {n k : Int} {c : Nat} {Q : Value → Shared → Prop} {h₀ : Heap} {L b : Addr} {news : List (Addr × Obj)}
theorem fmt_sf (N : News h₀ L s.heap news) (hb : (b, ({ cls := .type "tuple", data := .seq [Value.int n u, Value.int k v].toArray c } : Obj)) ∈ news) (h0 : 0 ≤ n) (h1 : n < 10 ^ 10) (g0 : 0 ≤ k) (g1 : k < 10 ^ 10) (h : ∀ T t' k, Q (.str T t') { s with toks := k }) :
    wpAny (model prog w) A (binaryOp .Mod (.str (Str.ofString "Received Single Frame with length of %d while there is room for %d bytes of data with this configuration") t) (.ref b)) Q E s := by
  refine' KPt.mod_tuple N hb ?kptF ?kptm ?_
  case kptF => kpt_eq
  case kptm => kpt_run
  exact fun t' k => h _ t' k
end
end Mine
end S_Fmt

section S_Pdx
open PySem PySem.W PyProof.Rows PySem.Calls
namespace Mine
def pduo (sl : List (Option Value)) (d : Addr) : Obj := ⟨.ref 86, some d, .plain, sl.toArray⟩
def secOf (st : Int) : UInt64 :=
  if st ≤ 127 then Float64.ofFrac (decide (st < 0) != decide ((1000 : Int) < 0)) st.natAbs (Int.natAbs 1000)
  else Float64.ofFrac (decide (st - 240 < 0) != decide ((10000 : Int) < 0)) (st - 240).natAbs (Int.natAbs 10000)
def PduClaim (w : World) (cond : Int → List Int → Prop) (args : Addr → Int → Tok → List Value) : Prop :=
  ∀ {loose : List Str} {mean : ExcName → Option Value} {mg mb : Str → Option Value}
    (dp un : Nat) (gd : Option (List Code)) (cn : Str) (cs : Scope) (a : Addr) (ccd : Value) (cl : List (Str × Addr)) (outer : List Env) (A₀ : Around) (base h₀ : Heap) (L : Addr) (m : Str → Option Value) (s : Shared) (Q E : Value → Shared → Prop) (mx dx : Addr) (b : Array UInt8) (os : List Int) (ahead : Int) (tk tb : Tok) (s0 s1 s3 s4 s5 : Option Value) (rest : List (Addr × Obj))
    (hcond : cond ahead (os.drop ahead.toNat))
    (B : Below A₀ base outer h₀)
    (F : Fr h₀ L s.heap m)
    (X : (Mine.hd.heap_39 w.params).In h₀)
    (N : News h₀ L s.heap ((mx, (⟨.ref 119, some dx, .plain, [s0, s1, some (.bytes b tb), s3, s4, s5].toArray⟩ : Obj)) :: (dx, dictOf [] 0) :: rest))
    (T : Top Mine.hd.view_39 loose mean mg mb h₀)
    (hk : cs.kind = .function)
    (hI : KBw.bInts b = os)
    (h2 : os.length ≤ 64)
    (hb : ∀ x ∈ os, 0 ≤ x ∧ x < 256)
    (a0 : 0 ≤ ahead)
    (a1 : ahead ≤ 1)
    (hd : dp ≤ 500)
    (hu : un ≤ 5000)
    (hraise : dueOf (os.drop ahead.toNat) = none → ∀ (g h' : Heap) (e : Addr) (tk' : Nat), Fr h₀ L g m → g.UpToSlots h' → RaisedN base (envX cn cs L a ccd cl :: outer) e (.type "ValueError") ((mx, (⟨.ref 119, some dx, .plain, [s0, s1, some (.bytes b tb), s3, s4, s5].toArray⟩ : Obj)) :: (dx, dictOf [] 0) :: rest) h' → E (.ref e) { s with heap := h', toks := tk' })
    (hsf : ∀ (k : Int) (len : Int) (data : List Int) (long : Bool), dueOf (os.drop ahead.toNat) = some (.sf len data long) → k = 0 → ∀ (h' : Heap) (tk' : Nat) (x d : Addr) (bd : Array UInt8) (t1 t2 t3 t4 t5 t6 t7 t8 : Tok), Fr h₀ L h' m →
      News h₀ L h' ((x, pduo [some .none, some (.int os.length t1), some (.bytes bd t2), some (.bool long), some .none, some (.int len t5), some (.int (if (os.length : Int) > 8 then (os.length : Int) else 8) t3), some .none, some .none, some .none, some (.int k t4)] d) :: (d, dictOf [] 0) :: (mx, (⟨.ref 119, some dx, .plain, [s0, s1, some (.bytes b tb), s3, s4, s5].toArray⟩ : Obj)) :: (dx, dictOf [] 0) :: rest) → KBw.bInts bd = data → Q (.ref x) { s with heap := h', toks := tk' })
    (hff : ∀ (k : Int) (len : Int) (data : List Int) (long : Bool), dueOf (os.drop ahead.toNat) = some (.ff len data long) → k = 1 → ∀ (h' : Heap) (tk' : Nat) (x d : Addr) (bd : Array UInt8) (t1 t2 t3 t4 t5 t6 t7 t8 : Tok), Fr h₀ L h' m →
      News h₀ L h' ((x, pduo [some .none, some (.int os.length t1), some (.bytes bd t2), some (.bool long), some .none, some (.int len t5), some (.int (if (os.length : Int) > 8 then (os.length : Int) else 8) t3), some .none, some .none, some .none, some (.int k t4)] d) :: (d, dictOf [] 0) :: (mx, (⟨.ref 119, some dx, .plain, [s0, s1, some (.bytes b tb), s3, s4, s5].toArray⟩ : Obj)) :: (dx, dictOf [] 0) :: rest) → KBw.bInts bd = data → Q (.ref x) { s with heap := h', toks := tk' })
    (hcf : ∀ (k : Int) (seq : Int) (data : List Int), dueOf (os.drop ahead.toNat) = some (.cf seq data) → k = 2 → ∀ (h' : Heap) (tk' : Nat) (x d : Addr) (bd : Array UInt8) (t1 t2 t3 t4 t5 t6 t7 t8 : Tok), Fr h₀ L h' m →
      News h₀ L h' ((x, pduo [some .none, some (.int os.length t1), some (.bytes bd t2), some (.bool false), some .none, some .none, some (.int (if (os.length : Int) > 8 then (os.length : Int) else 8) t3), some (.int seq t5), some .none, some .none, some (.int k t4)] d) :: (d, dictOf [] 0) :: (mx, (⟨.ref 119, some dx, .plain, [s0, s1, some (.bytes b tb), s3, s4, s5].toArray⟩ : Obj)) :: (dx, dictOf [] 0) :: rest) → KBw.bInts bd = data → Q (.ref x) { s with heap := h', toks := tk' })
    (hfc : ∀ (k : Int) (bs st fs : Int), dueOf (os.drop ahead.toNat) = some (.fc bs st fs) → k = 3 → ∀ (h' : Heap) (tk' : Nat) (x d : Addr) (bd : Array UInt8) (t1 t2 t3 t4 t5 t6 t7 t8 : Tok), Fr h₀ L h' m →
      News h₀ L h' ((x, pduo [some (.int bs t5), some (.int os.length t1), some (.bytes bd t2), some (.bool false), some (.int fs t6), some .none, some (.int (if (os.length : Int) > 8 then (os.length : Int) else 8) t3), some .none, some (.int st t7), some (.float (secOf st) t8), some (.int k t4)] d) :: (d, dictOf [] 0) :: (mx, (⟨.ref 119, some dx, .plain, [s0, s1, some (.bytes b tb), s3, s4, s5].toArray⟩ : Obj)) :: (dx, dictOf [] 0) :: rest) → KBw.bInts bd = [] → Q (.ref x) { s with heap := h', toks := tk' }),
    wpAny (model PySem.Challenge.rw_ff0001_01.row.prog w) (ktrTop dp un gd cn cs L a ccd cl outer) (call (.ref 86) (args mx ahead tk)) Q E s
end Mine
end S_Pdx

section S_PduP
open PySem PySem.W PyProof.Rows PySem.Calls
namespace Mine
theorem take_min {ks : List Int} {n k L : Int} (hl : (ks.length : Int) = n - k) (h0 : 0 ≤ n - k) (hL : 0 ≤ L) : List.take (if n - k < L then n - k else L).toNat ks = List.take L.toNat ks := by
  split
  · rw [List.take_of_length_le (by omega), List.take_of_length_le (by omega)]
  · rfl
theorem sec_lo {st : Int} (h : st ≤ 127) : Float64.ofFrac (decide (st < 0) != decide ((1000 : Int) < 0)) st.natAbs (Int.natAbs 1000) = secOf st := by
  unfold secOf
  rw [if_pos h]
theorem sec_hi {st : Int} (h : ¬st ≤ 127) : Float64.ofFrac (decide (st - 240 < 0) != decide ((10000 : Int) < 0)) (st - 240).natAbs (Int.natAbs 10000) = secOf st := by
  unfold secOf
  rw [if_neg h]
theorem p_nil {row : List Int} (h : row.length = 0) : dueOf row = none := by
  unfold dueOf
  exact if_pos h
theorem p_sfs_n {row : List Int} {n : Nat} (hl : row.length = n) (hp : 0 < row.length) (hb : ∀ x ∈ row, 0 ≤ x ∧ x < 256) (g0 : (row.getD (Int.toNat 0) 0).fdiv 16 = 0) (g1 : (row.getD (Int.toNat 0) 0).fmod 16 ≠ 0) (g2 : (n : Int) - 1 < (row.getD (Int.toNat 0) 0).fmod 16) : dueOf row = none := by
  subst hl
  have b0 := getD_bd hb 0
  have b1 := getD_bd hb 1
  have b2 := getD_bd hb 2
  have b3 := getD_bd hb 3
  have b4 := getD_bd hb 4
  have b5 := getD_bd hb 5
  clear hb
  have e0 : row.getD (Int.toNat 0) 0 = row.getD 0 0 := rfl
  have e1 : row.getD (Int.toNat 1) 0 = row.getD 1 0 := rfl
  have e2 : row.getD (Int.toNat 2) 0 = row.getD 2 0 := rfl
  have e3 : row.getD (Int.toNat 3) 0 = row.getD 3 0 := rfl
  have e4 : row.getD (Int.toNat 4) 0 = row.getD 4 0 := rfl
  have e5 : row.getD (Int.toNat 5) 0 = row.getD 5 0 := rfl
  simp only [e0, e1, e2, e3, e4, e5, fd16, fm16] at *
  clear e0 e1 e2 e3 e4 e5
  unfold dueOf
  repeat (first | (refine (if_pos (by omega)).trans ?_) | (refine (if_neg (by omega)).trans ?_))
  all_goals (first | rfl | omega)
theorem p_sfs {row : List Int} {n : Nat} (hl : row.length = n) (hp : 0 < row.length) (hb : ∀ x ∈ row, 0 ≤ x ∧ x < 256) (g0 : (row.getD (Int.toNat 0) 0).fdiv 16 = 0) (g1 : (row.getD (Int.toNat 0) 0).fmod 16 ≠ 0) (g2 : ¬(n : Int) - 1 < (row.getD (Int.toNat 0) 0).fmod 16) : dueOf row = some (.sf ((row.getD (Int.toNat 0) 0).fmod 16) (List.take ((row.getD (Int.toNat 0) 0).fmod 16).toNat (List.drop (Int.toNat 1) row)) false) := by
  subst hl
  have b0 := getD_bd hb 0
  have b1 := getD_bd hb 1
  have b2 := getD_bd hb 2
  have b3 := getD_bd hb 3
  have b4 := getD_bd hb 4
  have b5 := getD_bd hb 5
  clear hb
  have e0 : row.getD (Int.toNat 0) 0 = row.getD 0 0 := rfl
  have e1 : row.getD (Int.toNat 1) 0 = row.getD 1 0 := rfl
  have e2 : row.getD (Int.toNat 2) 0 = row.getD 2 0 := rfl
  have e3 : row.getD (Int.toNat 3) 0 = row.getD 3 0 := rfl
  have e4 : row.getD (Int.toNat 4) 0 = row.getD 4 0 := rfl
  have e5 : row.getD (Int.toNat 5) 0 = row.getD 5 0 := rfl
  simp only [e0, e1, e2, e3, e4, e5, fd16, fm16] at *
  clear e0 e1 e2 e3 e4 e5
  unfold dueOf
  repeat (first | (refine (if_pos (by omega)).trans ?_) | (refine (if_neg (by omega)).trans ?_))
  all_goals (first | rfl | omega)
theorem p_sfl_n1 {row : List Int} {n : Nat} (hl : row.length = n) (hp : 0 < row.length) (hb : ∀ x ∈ row, 0 ≤ x ∧ x < 256) (g0 : (row.getD (Int.toNat 0) 0).fdiv 16 = 0) (g1 : (row.getD (Int.toNat 0) 0).fmod 16 = 0) (g2 : (n : Int) < 2) : dueOf row = none := by
  subst hl
  have b0 := getD_bd hb 0
  have b1 := getD_bd hb 1
  have b2 := getD_bd hb 2
  have b3 := getD_bd hb 3
  have b4 := getD_bd hb 4
  have b5 := getD_bd hb 5
  clear hb
  have e0 : row.getD (Int.toNat 0) 0 = row.getD 0 0 := rfl
  have e1 : row.getD (Int.toNat 1) 0 = row.getD 1 0 := rfl
  have e2 : row.getD (Int.toNat 2) 0 = row.getD 2 0 := rfl
  have e3 : row.getD (Int.toNat 3) 0 = row.getD 3 0 := rfl
  have e4 : row.getD (Int.toNat 4) 0 = row.getD 4 0 := rfl
  have e5 : row.getD (Int.toNat 5) 0 = row.getD 5 0 := rfl
  simp only [e0, e1, e2, e3, e4, e5, fd16, fm16] at *
  clear e0 e1 e2 e3 e4 e5
  unfold dueOf
  repeat (first | (refine (if_pos (by omega)).trans ?_) | (refine (if_neg (by omega)).trans ?_))
  all_goals (first | rfl | omega)
theorem p_sfl_n2 {row : List Int} {n : Nat} (hl : row.length = n) (hp : 0 < row.length) (hb : ∀ x ∈ row, 0 ≤ x ∧ x < 256) (g0 : (row.getD (Int.toNat 0) 0).fdiv 16 = 0) (g1 : (row.getD (Int.toNat 0) 0).fmod 16 = 0) (g2 : ¬(n : Int) < 2) (g3 : row.getD (Int.toNat 1) 0 = 0) : dueOf row = none := by
  subst hl
  have b0 := getD_bd hb 0
  have b1 := getD_bd hb 1
  have b2 := getD_bd hb 2
  have b3 := getD_bd hb 3
  have b4 := getD_bd hb 4
  have b5 := getD_bd hb 5
  clear hb
  have e0 : row.getD (Int.toNat 0) 0 = row.getD 0 0 := rfl
  have e1 : row.getD (Int.toNat 1) 0 = row.getD 1 0 := rfl
  have e2 : row.getD (Int.toNat 2) 0 = row.getD 2 0 := rfl
  have e3 : row.getD (Int.toNat 3) 0 = row.getD 3 0 := rfl
  have e4 : row.getD (Int.toNat 4) 0 = row.getD 4 0 := rfl
  have e5 : row.getD (Int.toNat 5) 0 = row.getD 5 0 := rfl
  simp only [e0, e1, e2, e3, e4, e5, fd16, fm16] at *
  clear e0 e1 e2 e3 e4 e5
  unfold dueOf
  repeat (first | (refine (if_pos (by omega)).trans ?_) | (refine (if_neg (by omega)).trans ?_))
  all_goals (first | rfl | omega)
theorem p_sfl_n3 {row : List Int} {n : Nat} (hl : row.length = n) (hp : 0 < row.length) (hb : ∀ x ∈ row, 0 ≤ x ∧ x < 256) (g0 : (row.getD (Int.toNat 0) 0).fdiv 16 = 0) (g1 : (row.getD (Int.toNat 0) 0).fmod 16 = 0) (g2 : ¬(n : Int) < 2) (g3 : row.getD (Int.toNat 1) 0 ≠ 0) (g4 : (n : Int) - 2 < row.getD (Int.toNat 1) 0) : dueOf row = none := by
  subst hl
  have b0 := getD_bd hb 0
  have b1 := getD_bd hb 1
  have b2 := getD_bd hb 2
  have b3 := getD_bd hb 3
  have b4 := getD_bd hb 4
  have b5 := getD_bd hb 5
  clear hb
  have e0 : row.getD (Int.toNat 0) 0 = row.getD 0 0 := rfl
  have e1 : row.getD (Int.toNat 1) 0 = row.getD 1 0 := rfl
  have e2 : row.getD (Int.toNat 2) 0 = row.getD 2 0 := rfl
  have e3 : row.getD (Int.toNat 3) 0 = row.getD 3 0 := rfl
  have e4 : row.getD (Int.toNat 4) 0 = row.getD 4 0 := rfl
  have e5 : row.getD (Int.toNat 5) 0 = row.getD 5 0 := rfl
  simp only [e0, e1, e2, e3, e4, e5, fd16, fm16] at *
  clear e0 e1 e2 e3 e4 e5
  unfold dueOf
  repeat (first | (refine (if_pos (by omega)).trans ?_) | (refine (if_neg (by omega)).trans ?_))
  all_goals (first | rfl | omega)
theorem p_sfl {row : List Int} {n : Nat} (hl : row.length = n) (hp : 0 < row.length) (hb : ∀ x ∈ row, 0 ≤ x ∧ x < 256) (g0 : (row.getD (Int.toNat 0) 0).fdiv 16 = 0) (g1 : (row.getD (Int.toNat 0) 0).fmod 16 = 0) (g2 : ¬(n : Int) < 2) (g3 : row.getD (Int.toNat 1) 0 ≠ 0) (g4 : ¬(n : Int) - 2 < row.getD (Int.toNat 1) 0) : dueOf row = some (.sf (row.getD (Int.toNat 1) 0) (List.take (row.getD (Int.toNat 1) 0).toNat (List.drop (Int.toNat 2) row)) true) := by
  subst hl
  have b0 := getD_bd hb 0
  have b1 := getD_bd hb 1
  have b2 := getD_bd hb 2
  have b3 := getD_bd hb 3
  have b4 := getD_bd hb 4
  have b5 := getD_bd hb 5
  clear hb
  have e0 : row.getD (Int.toNat 0) 0 = row.getD 0 0 := rfl
  have e1 : row.getD (Int.toNat 1) 0 = row.getD 1 0 := rfl
  have e2 : row.getD (Int.toNat 2) 0 = row.getD 2 0 := rfl
  have e3 : row.getD (Int.toNat 3) 0 = row.getD 3 0 := rfl
  have e4 : row.getD (Int.toNat 4) 0 = row.getD 4 0 := rfl
  have e5 : row.getD (Int.toNat 5) 0 = row.getD 5 0 := rfl
  simp only [e0, e1, e2, e3, e4, e5, fd16, fm16] at *
  clear e0 e1 e2 e3 e4 e5
  unfold dueOf
  repeat (first | (refine (if_pos (by omega)).trans ?_) | (refine (if_neg (by omega)).trans ?_))
  all_goals (first | rfl | omega)
theorem p_ff_n1 {row : List Int} {n : Nat} (hl : row.length = n) (hp : 0 < row.length) (hb : ∀ x ∈ row, 0 ≤ x ∧ x < 256) (g0 : (row.getD (Int.toNat 0) 0).fdiv 16 = 1) (g1 : (n : Int) < 2) : dueOf row = none := by
  subst hl
  have b0 := getD_bd hb 0
  have b1 := getD_bd hb 1
  have b2 := getD_bd hb 2
  have b3 := getD_bd hb 3
  have b4 := getD_bd hb 4
  have b5 := getD_bd hb 5
  clear hb
  have e0 : row.getD (Int.toNat 0) 0 = row.getD 0 0 := rfl
  have e1 : row.getD (Int.toNat 1) 0 = row.getD 1 0 := rfl
  have e2 : row.getD (Int.toNat 2) 0 = row.getD 2 0 := rfl
  have e3 : row.getD (Int.toNat 3) 0 = row.getD 3 0 := rfl
  have e4 : row.getD (Int.toNat 4) 0 = row.getD 4 0 := rfl
  have e5 : row.getD (Int.toNat 5) 0 = row.getD 5 0 := rfl
  simp only [e0, e1, e2, e3, e4, e5, fd16, fm16] at *
  clear e0 e1 e2 e3 e4 e5
  unfold dueOf
  repeat (first | (refine (if_pos (by omega)).trans ?_) | (refine (if_neg (by omega)).trans ?_))
  all_goals (first | rfl | omega)
theorem p_ffs {row : List Int} {n : Nat} (hl : row.length = n) (hp : 0 < row.length) (hb : ∀ x ∈ row, 0 ≤ x ∧ x < 256) (g0 : (row.getD (Int.toNat 0) 0).fdiv 16 = 1) (g1 : ¬(n : Int) < 2) (g2 : 256 * (row.getD (Int.toNat 0) 0).fmod 16 + row.getD (Int.toNat 1) 0 ≠ 0) : dueOf row = some (.ff (256 * (row.getD (Int.toNat 0) 0).fmod 16 + row.getD (Int.toNat 1) 0) (List.take (if (n : Int) - 2 < 256 * (row.getD (Int.toNat 0) 0).fmod 16 + row.getD (Int.toNat 1) 0 then (n : Int) - 2 else 256 * (row.getD (Int.toNat 0) 0).fmod 16 + row.getD (Int.toNat 1) 0).toNat (List.drop (Int.toNat 2) row)) false) := by
  subst hl
  have b0 := getD_bd hb 0
  have b1 := getD_bd hb 1
  have b2 := getD_bd hb 2
  have b3 := getD_bd hb 3
  have b4 := getD_bd hb 4
  have b5 := getD_bd hb 5
  clear hb
  rw [take_min (by rw [List.length_drop, show Int.toNat 2 = 2 from rfl]; omega) (by omega) (by rw [fm16]; have e0 : row.getD (Int.toNat 0) 0 = row.getD 0 0 := rfl; have e1 : row.getD (Int.toNat 1) 0 = row.getD 1 0 := rfl; rw [e0, e1]; omega)]
  have e0 : row.getD (Int.toNat 0) 0 = row.getD 0 0 := rfl
  have e1 : row.getD (Int.toNat 1) 0 = row.getD 1 0 := rfl
  have e2 : row.getD (Int.toNat 2) 0 = row.getD 2 0 := rfl
  have e3 : row.getD (Int.toNat 3) 0 = row.getD 3 0 := rfl
  have e4 : row.getD (Int.toNat 4) 0 = row.getD 4 0 := rfl
  have e5 : row.getD (Int.toNat 5) 0 = row.getD 5 0 := rfl
  simp only [e0, e1, e2, e3, e4, e5, fd16, fm16] at *
  clear e0 e1 e2 e3 e4 e5
  unfold dueOf
  repeat (first | (refine (if_pos (by omega)).trans ?_) | (refine (if_neg (by omega)).trans ?_))
  all_goals (first | rfl | omega)
theorem p_ff_n2 {row : List Int} {n : Nat} (hl : row.length = n) (hp : 0 < row.length) (hb : ∀ x ∈ row, 0 ≤ x ∧ x < 256) (g0 : (row.getD (Int.toNat 0) 0).fdiv 16 = 1) (g1 : ¬(n : Int) < 2) (g2 : 256 * (row.getD (Int.toNat 0) 0).fmod 16 + row.getD (Int.toNat 1) 0 = 0) (g3 : (n : Int) < 6) : dueOf row = none := by
  subst hl
  have b0 := getD_bd hb 0
  have b1 := getD_bd hb 1
  have b2 := getD_bd hb 2
  have b3 := getD_bd hb 3
  have b4 := getD_bd hb 4
  have b5 := getD_bd hb 5
  clear hb
  have e0 : row.getD (Int.toNat 0) 0 = row.getD 0 0 := rfl
  have e1 : row.getD (Int.toNat 1) 0 = row.getD 1 0 := rfl
  have e2 : row.getD (Int.toNat 2) 0 = row.getD 2 0 := rfl
  have e3 : row.getD (Int.toNat 3) 0 = row.getD 3 0 := rfl
  have e4 : row.getD (Int.toNat 4) 0 = row.getD 4 0 := rfl
  have e5 : row.getD (Int.toNat 5) 0 = row.getD 5 0 := rfl
  simp only [e0, e1, e2, e3, e4, e5, fd16, fm16] at *
  clear e0 e1 e2 e3 e4 e5
  unfold dueOf
  repeat (first | (refine (if_pos (by omega)).trans ?_) | (refine (if_neg (by omega)).trans ?_))
  all_goals (first | rfl | omega)
theorem p_ffl {row : List Int} {n : Nat} (hl : row.length = n) (hp : 0 < row.length) (hb : ∀ x ∈ row, 0 ≤ x ∧ x < 256) (g0 : (row.getD (Int.toNat 0) 0).fdiv 16 = 1) (g1 : ¬(n : Int) < 2) (g2 : 256 * (row.getD (Int.toNat 0) 0).fmod 16 + row.getD (Int.toNat 1) 0 = 0) (g3 : ¬(n : Int) < 6) : dueOf row = some (.ff (row.getD (Int.toNat 2) 0 * 16777216 + row.getD (Int.toNat 3) 0 * 65536 + row.getD (Int.toNat 4) 0 * 256 + row.getD (Int.toNat 5) 0) (List.take (if (n : Int) - 6 < row.getD (Int.toNat 2) 0 * 16777216 + row.getD (Int.toNat 3) 0 * 65536 + row.getD (Int.toNat 4) 0 * 256 + row.getD (Int.toNat 5) 0 then (n : Int) - 6 else row.getD (Int.toNat 2) 0 * 16777216 + row.getD (Int.toNat 3) 0 * 65536 + row.getD (Int.toNat 4) 0 * 256 + row.getD (Int.toNat 5) 0).toNat (List.drop (Int.toNat 6) row)) true) := by
  subst hl
  have b0 := getD_bd hb 0
  have b1 := getD_bd hb 1
  have b2 := getD_bd hb 2
  have b3 := getD_bd hb 3
  have b4 := getD_bd hb 4
  have b5 := getD_bd hb 5
  clear hb
  rw [take_min (by rw [List.length_drop, show Int.toNat 6 = 6 from rfl]; omega) (by omega) (by have e0 : row.getD (Int.toNat 2) 0 = row.getD 2 0 := rfl; have e1 : row.getD (Int.toNat 3) 0 = row.getD 3 0 := rfl; have e2 : row.getD (Int.toNat 4) 0 = row.getD 4 0 := rfl; have e3 : row.getD (Int.toNat 5) 0 = row.getD 5 0 := rfl; rw [e0, e1, e2, e3]; omega)]
  have e0 : row.getD (Int.toNat 0) 0 = row.getD 0 0 := rfl
  have e1 : row.getD (Int.toNat 1) 0 = row.getD 1 0 := rfl
  have e2 : row.getD (Int.toNat 2) 0 = row.getD 2 0 := rfl
  have e3 : row.getD (Int.toNat 3) 0 = row.getD 3 0 := rfl
  have e4 : row.getD (Int.toNat 4) 0 = row.getD 4 0 := rfl
  have e5 : row.getD (Int.toNat 5) 0 = row.getD 5 0 := rfl
  simp only [e0, e1, e2, e3, e4, e5, fd16, fm16] at *
  clear e0 e1 e2 e3 e4 e5
  unfold dueOf
  repeat (first | (refine (if_pos (by omega)).trans ?_) | (refine (if_neg (by omega)).trans ?_))
  all_goals (first | rfl | omega)
theorem p_cf {row : List Int} {n : Nat} (hl : row.length = n) (hp : 0 < row.length) (hb : ∀ x ∈ row, 0 ≤ x ∧ x < 256) (g0 : (row.getD (Int.toNat 0) 0).fdiv 16 = 2) : dueOf row = some (.cf ((row.getD (Int.toNat 0) 0).fmod 16) (List.drop (Int.toNat 1) row)) := by
  subst hl
  have b0 := getD_bd hb 0
  have b1 := getD_bd hb 1
  have b2 := getD_bd hb 2
  have b3 := getD_bd hb 3
  have b4 := getD_bd hb 4
  have b5 := getD_bd hb 5
  clear hb
  have e0 : row.getD (Int.toNat 0) 0 = row.getD 0 0 := rfl
  have e1 : row.getD (Int.toNat 1) 0 = row.getD 1 0 := rfl
  have e2 : row.getD (Int.toNat 2) 0 = row.getD 2 0 := rfl
  have e3 : row.getD (Int.toNat 3) 0 = row.getD 3 0 := rfl
  have e4 : row.getD (Int.toNat 4) 0 = row.getD 4 0 := rfl
  have e5 : row.getD (Int.toNat 5) 0 = row.getD 5 0 := rfl
  simp only [e0, e1, e2, e3, e4, e5, fd16, fm16] at *
  clear e0 e1 e2 e3 e4 e5
  unfold dueOf
  repeat (first | (refine (if_pos (by omega)).trans ?_) | (refine (if_neg (by omega)).trans ?_))
  all_goals (first | rfl | omega)
theorem p_fc_n1 {row : List Int} {n : Nat} (hl : row.length = n) (hp : 0 < row.length) (hb : ∀ x ∈ row, 0 ≤ x ∧ x < 256) (g0 : (row.getD (Int.toNat 0) 0).fdiv 16 = 3) (g1 : (n : Int) < 3) : dueOf row = none := by
  subst hl
  have b0 := getD_bd hb 0
  have b1 := getD_bd hb 1
  have b2 := getD_bd hb 2
  have b3 := getD_bd hb 3
  have b4 := getD_bd hb 4
  have b5 := getD_bd hb 5
  clear hb
  have e0 : row.getD (Int.toNat 0) 0 = row.getD 0 0 := rfl
  have e1 : row.getD (Int.toNat 1) 0 = row.getD 1 0 := rfl
  have e2 : row.getD (Int.toNat 2) 0 = row.getD 2 0 := rfl
  have e3 : row.getD (Int.toNat 3) 0 = row.getD 3 0 := rfl
  have e4 : row.getD (Int.toNat 4) 0 = row.getD 4 0 := rfl
  have e5 : row.getD (Int.toNat 5) 0 = row.getD 5 0 := rfl
  simp only [e0, e1, e2, e3, e4, e5, fd16, fm16] at *
  clear e0 e1 e2 e3 e4 e5
  unfold dueOf
  repeat (first | (refine (if_pos (by omega)).trans ?_) | (refine (if_neg (by omega)).trans ?_))
  all_goals (first | rfl | omega)
theorem p_fc_n2 {row : List Int} {n : Nat} (hl : row.length = n) (hp : 0 < row.length) (hb : ∀ x ∈ row, 0 ≤ x ∧ x < 256) (g0 : (row.getD (Int.toNat 0) 0).fdiv 16 = 3) (g1 : ¬(n : Int) < 3) (g2 : 3 ≤ (row.getD (Int.toNat 0) 0).fmod 16) : dueOf row = none := by
  subst hl
  have b0 := getD_bd hb 0
  have b1 := getD_bd hb 1
  have b2 := getD_bd hb 2
  have b3 := getD_bd hb 3
  have b4 := getD_bd hb 4
  have b5 := getD_bd hb 5
  clear hb
  have e0 : row.getD (Int.toNat 0) 0 = row.getD 0 0 := rfl
  have e1 : row.getD (Int.toNat 1) 0 = row.getD 1 0 := rfl
  have e2 : row.getD (Int.toNat 2) 0 = row.getD 2 0 := rfl
  have e3 : row.getD (Int.toNat 3) 0 = row.getD 3 0 := rfl
  have e4 : row.getD (Int.toNat 4) 0 = row.getD 4 0 := rfl
  have e5 : row.getD (Int.toNat 5) 0 = row.getD 5 0 := rfl
  simp only [e0, e1, e2, e3, e4, e5, fd16, fm16] at *
  clear e0 e1 e2 e3 e4 e5
  unfold dueOf
  repeat (first | (refine (if_pos (by omega)).trans ?_) | (refine (if_neg (by omega)).trans ?_))
  all_goals (first | rfl | omega)
theorem p_fc1 {row : List Int} {n : Nat} (hl : row.length = n) (hp : 0 < row.length) (hb : ∀ x ∈ row, 0 ≤ x ∧ x < 256) (g0 : (row.getD (Int.toNat 0) 0).fdiv 16 = 3) (g1 : ¬(n : Int) < 3) (g2 : ¬3 ≤ (row.getD (Int.toNat 0) 0).fmod 16) (g3 : row.getD (Int.toNat 2) 0 ≤ 127) : dueOf row = some (.fc (row.getD (Int.toNat 1) 0) (row.getD (Int.toNat 2) 0) ((row.getD (Int.toNat 0) 0).fmod 16)) := by
  subst hl
  have b0 := getD_bd hb 0
  have b1 := getD_bd hb 1
  have b2 := getD_bd hb 2
  have b3 := getD_bd hb 3
  have b4 := getD_bd hb 4
  have b5 := getD_bd hb 5
  clear hb
  have e0 : row.getD (Int.toNat 0) 0 = row.getD 0 0 := rfl
  have e1 : row.getD (Int.toNat 1) 0 = row.getD 1 0 := rfl
  have e2 : row.getD (Int.toNat 2) 0 = row.getD 2 0 := rfl
  have e3 : row.getD (Int.toNat 3) 0 = row.getD 3 0 := rfl
  have e4 : row.getD (Int.toNat 4) 0 = row.getD 4 0 := rfl
  have e5 : row.getD (Int.toNat 5) 0 = row.getD 5 0 := rfl
  simp only [e0, e1, e2, e3, e4, e5, fd16, fm16] at *
  clear e0 e1 e2 e3 e4 e5
  unfold dueOf
  repeat (first | (refine (if_pos (by omega)).trans ?_) | (refine (if_neg (by omega)).trans ?_))
  all_goals (first | rfl | omega)
theorem p_fc2 {row : List Int} {n : Nat} (hl : row.length = n) (hp : 0 < row.length) (hb : ∀ x ∈ row, 0 ≤ x ∧ x < 256) (g0 : (row.getD (Int.toNat 0) 0).fdiv 16 = 3) (g1 : ¬(n : Int) < 3) (g2 : ¬3 ≤ (row.getD (Int.toNat 0) 0).fmod 16) (g3 : ¬row.getD (Int.toNat 2) 0 ≤ 127) (g4 : 241 ≤ row.getD (Int.toNat 2) 0) (g5 : row.getD (Int.toNat 2) 0 ≤ 249) : dueOf row = some (.fc (row.getD (Int.toNat 1) 0) (row.getD (Int.toNat 2) 0) ((row.getD (Int.toNat 0) 0).fmod 16)) := by
  subst hl
  have b0 := getD_bd hb 0
  have b1 := getD_bd hb 1
  have b2 := getD_bd hb 2
  have b3 := getD_bd hb 3
  have b4 := getD_bd hb 4
  have b5 := getD_bd hb 5
  clear hb
  have e0 : row.getD (Int.toNat 0) 0 = row.getD 0 0 := rfl
  have e1 : row.getD (Int.toNat 1) 0 = row.getD 1 0 := rfl
  have e2 : row.getD (Int.toNat 2) 0 = row.getD 2 0 := rfl
  have e3 : row.getD (Int.toNat 3) 0 = row.getD 3 0 := rfl
  have e4 : row.getD (Int.toNat 4) 0 = row.getD 4 0 := rfl
  have e5 : row.getD (Int.toNat 5) 0 = row.getD 5 0 := rfl
  simp only [e0, e1, e2, e3, e4, e5, fd16, fm16] at *
  clear e0 e1 e2 e3 e4 e5
  unfold dueOf
  repeat (first | (refine (if_pos (by omega)).trans ?_) | (refine (if_neg (by omega)).trans ?_))
  all_goals (first | rfl | omega)
theorem p_fc_n3 {row : List Int} {n : Nat} (hl : row.length = n) (hp : 0 < row.length) (hb : ∀ x ∈ row, 0 ≤ x ∧ x < 256) (g0 : (row.getD (Int.toNat 0) 0).fdiv 16 = 3) (g1 : ¬(n : Int) < 3) (g2 : ¬3 ≤ (row.getD (Int.toNat 0) 0).fmod 16) (g3 : ¬row.getD (Int.toNat 2) 0 ≤ 127) (g4 : 241 ≤ row.getD (Int.toNat 2) 0) (g5 : ¬row.getD (Int.toNat 2) 0 ≤ 249) : dueOf row = none := by
  subst hl
  have b0 := getD_bd hb 0
  have b1 := getD_bd hb 1
  have b2 := getD_bd hb 2
  have b3 := getD_bd hb 3
  have b4 := getD_bd hb 4
  have b5 := getD_bd hb 5
  clear hb
  have e0 : row.getD (Int.toNat 0) 0 = row.getD 0 0 := rfl
  have e1 : row.getD (Int.toNat 1) 0 = row.getD 1 0 := rfl
  have e2 : row.getD (Int.toNat 2) 0 = row.getD 2 0 := rfl
  have e3 : row.getD (Int.toNat 3) 0 = row.getD 3 0 := rfl
  have e4 : row.getD (Int.toNat 4) 0 = row.getD 4 0 := rfl
  have e5 : row.getD (Int.toNat 5) 0 = row.getD 5 0 := rfl
  simp only [e0, e1, e2, e3, e4, e5, fd16, fm16] at *
  clear e0 e1 e2 e3 e4 e5
  unfold dueOf
  repeat (first | (refine (if_pos (by omega)).trans ?_) | (refine (if_neg (by omega)).trans ?_))
  all_goals (first | rfl | omega)
theorem p_fc_n4 {row : List Int} {n : Nat} (hl : row.length = n) (hp : 0 < row.length) (hb : ∀ x ∈ row, 0 ≤ x ∧ x < 256) (g0 : (row.getD (Int.toNat 0) 0).fdiv 16 = 3) (g1 : ¬(n : Int) < 3) (g2 : ¬3 ≤ (row.getD (Int.toNat 0) 0).fmod 16) (g3 : ¬row.getD (Int.toNat 2) 0 ≤ 127) (g4 : ¬241 ≤ row.getD (Int.toNat 2) 0) : dueOf row = none := by
  subst hl
  have b0 := getD_bd hb 0
  have b1 := getD_bd hb 1
  have b2 := getD_bd hb 2
  have b3 := getD_bd hb 3
  have b4 := getD_bd hb 4
  have b5 := getD_bd hb 5
  clear hb
  have e0 : row.getD (Int.toNat 0) 0 = row.getD 0 0 := rfl
  have e1 : row.getD (Int.toNat 1) 0 = row.getD 1 0 := rfl
  have e2 : row.getD (Int.toNat 2) 0 = row.getD 2 0 := rfl
  have e3 : row.getD (Int.toNat 3) 0 = row.getD 3 0 := rfl
  have e4 : row.getD (Int.toNat 4) 0 = row.getD 4 0 := rfl
  have e5 : row.getD (Int.toNat 5) 0 = row.getD 5 0 := rfl
  simp only [e0, e1, e2, e3, e4, e5, fd16, fm16] at *
  clear e0 e1 e2 e3 e4 e5
  unfold dueOf
  repeat (first | (refine (if_pos (by omega)).trans ?_) | (refine (if_neg (by omega)).trans ?_))
  all_goals (first | rfl | omega)
theorem p_hi {row : List Int} {n : Nat} (hl : row.length = n) (hp : 0 < row.length) (hb : ∀ x ∈ row, 0 ≤ x ∧ x < 256) (g0 : 3 < (row.getD (Int.toNat 0) 0).fdiv 16) : dueOf row = none := by
  subst hl
  have b0 := getD_bd hb 0
  have b1 := getD_bd hb 1
  have b2 := getD_bd hb 2
  have b3 := getD_bd hb 3
  have b4 := getD_bd hb 4
  have b5 := getD_bd hb 5
  clear hb
  have e0 : row.getD (Int.toNat 0) 0 = row.getD 0 0 := rfl
  have e1 : row.getD (Int.toNat 1) 0 = row.getD 1 0 := rfl
  have e2 : row.getD (Int.toNat 2) 0 = row.getD 2 0 := rfl
  have e3 : row.getD (Int.toNat 3) 0 = row.getD 3 0 := rfl
  have e4 : row.getD (Int.toNat 4) 0 = row.getD 4 0 := rfl
  have e5 : row.getD (Int.toNat 5) 0 = row.getD 5 0 := rfl
  simp only [e0, e1, e2, e3, e4, e5, fd16, fm16] at *
  clear e0 e1 e2 e3 e4 e5
  unfold dueOf
  repeat (first | (refine (if_pos (by omega)).trans ?_) | (refine (if_neg (by omega)).trans ?_))
  all_goals (first | rfl | omega)
end Mine
end S_PduP

section S_Pdu_nil
open PySem PySem.W PyProof.Rows PySem.Calls
namespace Mine
local macro_rules | `(tactic| k_mem) => `(tactic| ((repeat (first | exact List.Mem.head _ | refine List.Mem.tail _ ?_)); done))
local macro_rules | `(tactic| units_room) => `(tactic| ((try simp only [units_under_make, units_in1, units_deeper, Around.mark_units, cLine_is]); omega))
local macro_rules | `(tactic| k_units) => `(tactic| ((try simp only [units_under_make, units_in1, units_deeper, Around.mark_units, cLine_is]); omega))
local macro_rules | `(tactic| k_room) => `(tactic| ((try simp only [depth_under_make, depth_under_kw, depth_in1, depth_deeper, recursionLimit]); omega))
local macro_rules | `(tactic| ktr_room) => `(tactic| ((try simp only [depth_under_make, depth_under_kw, depth_in1, depth_deeper, recursionLimit]); omega))
local macro_rules | `(tactic| news_mem) => `(tactic| k_mem)

local macro_rules | `(tactic| walk_at "ite") => `(tactic| (k_here; k_openite; k_dflt (first | (refine ite_pos (by ((try simp only [decide_eq_true_eq, beq_iff_eq, bne_iff_ne]); omega)) ?_) | (refine ite_neg (by ((try simp only [decide_eq_true_eq, beq_iff_eq, bne_iff_ne]); omega)) ?_))))
local macro_rules | `(tactic| walk_at "binaryOp Mult int int") => `(tactic| (k_here; k_dflt (refine PyProof.Rows.mul_int ?_ (drop_bits (by with_reducible assumption) _ _ _))))
theorem rest_ne2 {x y L' d : Nat} {rest : List (Addr × Obj)} (h : @LT.lt Nat _ x L' ∧ @LT.lt Nat _ y L' ∧ AllLt L' rest) (hd : @LE.le Nat _ L' d) : ∀ p ∈ rest, p.1 ≠ d := rest_ne h.2 hd
local macro_rules | `(tactic| k_all) => `(tactic| (k_dflt (refine' rest_ne2 ?ka ?kb; (case ka => with_reducible assumption); (case kb => omega))))
local macro_rules | `(tactic| kst_mem) => `(tactic| (intro p9 hp9; (repeat (first | exact hp9 | refine List.Mem.tail _ ?_))))
local macro_rules | `(tactic| walk_at "subscriptTail") => `(tactic| (k_here; (with_reducible show wpAny _ _ (subscriptTail _ (Expr.Slice _ _ none _) (Value.bytes _ _) (Value.ref _)) _ _ _); (with_reducible rename Fr _ _ _ _ => F'); (with_reducible rename News _ _ _ _ => N'); (refine KBc.slice_K (s := ⟨_, _, _, _, _⟩) F' N' (by with_reducible assumption) (by constructor) (by constructor) (by kba_size) ?_); intro _ _ _ _ _ kbcK; k_dflt ((try simp only [Option.elim, List.drop_zero, Nat.sub_zero] at kbcK); first | rw [clip_drop (by omega)] at kbcK | rw [clip_take (by omega)] at kbcK | fail "slice")))
theorem nb_byte {x : Int} (h0 : 0 ≤ x) (h1 : x < 256) : x.natAbs < 2 ^ 64 := by omega
theorem nb_mod (x : Int) : (x.fmod 16).natAbs < 2 ^ 64 := by have := fmod_bd x; omega
local macro_rules | `(tactic| walk_at "binaryOp LShift int int") => `(tactic| (k_here; k_dflt (refine' PyProof.Rows.lshift_int_small ?ka ?kb ?kc ?_; (case ka => decide); (case kb => decide); (case kc => first | exact nb_mod _ | exact nb_byte (by with_reducible assumption) (by with_reducible assumption)))))
local macro_rules | `(tactic| walk_at "binaryOp BitAnd int int") => `(tactic| (k_here; k_dflt (refine' and_as ?ke ?_; (case ke => first | (with_reducible exact band_hi (by assumption) (by assumption)) | (with_reducible exact band_lo _)))))
local macro_rules | `(tactic| walk_at "binaryOp BitOr int int") => `(tactic| (k_here; k_dflt (refine' or_as ?ke ?_; (case ke => with_reducible (first | exact or_len (by assumption) (by assumption) | exact or_32 (by assumption) (by assumption) (by assumption) | exact or_16 (by assumption) (by assumption) (by assumption) (by assumption) | exact or_8 (by assumption) (by assumption) (by assumption) (by assumption) (by assumption))))))
local macro_rules | `(tactic| walk_at "getAttr ref") => `(tactic| (k_here; k_dflt (refine' get_clsS ?k1 ?k2 ?k3 ?k4 ?k5 ?k6 ?k7 ?k8 ?k9 ?k10 ?_; (case k1 => k_asm); (case k2 => k_asm); (case k3 => k_inst); (case k4 => k_is); (case k5 => k_is); (case k6 => k_is); (case k7 => k_is); (case k8 => k_is); (case k9 => k_handed); (case k10 => decide +kernel); k_whole)))
theorem fm_hi0 {x : Int} (h0 : 0 ≤ x) : 0 ≤ x.fdiv 16 := by rw [fd16]; omega
theorem fm_hi1 {x : Int} (h1 : x < 256) : x.fdiv 16 < 10 ^ 10 := by rw [fd16]; omega
theorem fm_lo0 (x : Int) : 0 ≤ x.fmod 16 := (fmod_bd x).1
theorem fm_lo1 (x : Int) : x.fmod 16 < 10 ^ 10 := by have := (fmod_bd x).2; omega
theorem fm_by1 {x : Int} (h1 : x < 256) : x < 10 ^ 10 := by omega
theorem fm_ah0 {k ahead : Int} (hk : 0 ≤ k) (h : 0 ≤ ahead) : 0 ≤ k + ahead := by omega
theorem fm_ah1 {k ahead : Int} (hk : k ≤ 10) (h : ahead ≤ 1) : k + ahead < 10 ^ 10 := by omega
theorem fm_l1 {X : Nat} (h : 0 < (X : Int)) : 0 ≤ (X : Int) - 1 := by omega
theorem fm_l2 {X : Nat} (h : ¬(X : Int) < 2) : 0 ≤ (X : Int) - 2 := by omega
theorem fm_lu {n m : Nat} {k : Int} (h : n ≤ 64) (hk : 0 ≤ k) : ((n - m : Nat) : Int) - k < 10 ^ 10 := by omega
local macro_rules | `(tactic| walk_at "binaryOp Mod str int") => `(tactic| (k_here; k_dflt (first | (with_reducible refine' fmt_kind ?ka ?kb ?_; (case ka => exact fm_hi0 (by with_reducible assumption)); (case kb => exact fm_hi1 (by with_reducible assumption))) | (with_reducible refine' fmt_sfl ?ka ?kb ?_; (case ka => exact fm_ah0 (by decide) (by with_reducible assumption)); (case kb => exact fm_ah1 (by decide) (by with_reducible assumption))) | (with_reducible refine' fmt_ff1 ?ka ?kb ?_; (case ka => exact fm_ah0 (by decide) (by with_reducible assumption)); (case kb => exact fm_ah1 (by decide) (by with_reducible assumption))) | (with_reducible refine' fmt_ff2 ?ka ?kb ?_; (case ka => exact fm_ah0 (by decide) (by with_reducible assumption)); (case kb => exact fm_ah1 (by decide) (by with_reducible assumption))) | (with_reducible refine' fmt_fc ?ka ?kb ?_; (case ka => exact fm_ah0 (by decide) (by with_reducible assumption)); (case kb => exact fm_ah1 (by decide) (by with_reducible assumption)))); intro _ _ _))
local macro_rules | `(tactic| walk_at "binaryOp Mod str ref") => `(tactic| (k_here; k_dflt ((with_reducible refine' fmt_sf ?kN ?kb ?k0 ?k1 ?k2 ?k3 ?_); (case kN => with_reducible assumption); (case kb => k_mem); (case k0 => first | exact fm_lo0 _ | with_reducible assumption); (case k1 => first | exact fm_lo1 _ | exact fm_by1 (by with_reducible assumption)); (case k2 => first | exact fm_l1 (by with_reducible assumption) | exact fm_l2 (by with_reducible assumption)); (case k3 => exact fm_lu (by with_reducible assumption) (by decide))); intro _ _ _))
local macro_rules | `(tactic| walk_at "call type:bytes") => `(tactic| (k_here; (with_reducible show wpAny _ _ (call (Value.type "bytes") [] []) _ _ _); k_dflt (refine bytes_nil ?_)))

set_option maxRecDepth 100000 in
set_option maxHeartbeats 8000000 in
theorem pdu_nil (w : World) : PduClaim w (fun _ row => row.length = 0) (fun mx ahead tk => [.ref mx, .int ahead tk]) := by
  intro loose mean mg mb dp un gd cn cs a ccd cl outer A₀ base h₀ L m s Q E mx dx b os ahead tk tb s0 s1 s3 s4 s5 rest hcond B F X N T hk hI h2 hb a0 a1 hd hu hraise hsf hff hcf hfc
  revert X
  k_fill
  intro X
  dsimp only at hcond ⊢
  obtain ⟨knd, nms, g1, g2, mr⟩ := cs
  dsimp only at hk
  subst hk
  have hb0 := drop_bd hb ahead.toNat 0
  have hb1 := drop_bd hb ahead.toNat 1
  have hb2 := drop_bd hb ahead.toNat 2
  have hf0 := fd16 ((os.drop ahead.toNat).getD 0 0)
  have hm0 := fm16 ((os.drop ahead.toNat).getD 0 0)
  have hq0 : 0 ≤ ((os.drop ahead.toNat).getD (Int.toNat 0) 0).fdiv 16 := fm_hi0 hb0.1
  have hq1 : 0 ≤ ((os.drop ahead.toNat).getD (Int.toNat 0) 0).fmod 16 := fm_lo0 _
  have hv4 := val4_nonneg (drop_all hb ahead.toNat)
  have hlen : (os.drop ahead.toNat).length = os.length - ahead.toNat := List.length_drop ..
  have hrow := drop_all hb ahead.toNat

  k_steps
  all_goals (try ((with_reducible show InitBack _ _ (Except.error _) _); (rename RaisedN _ _ _ _ _ _ => rkX); (rename Heap.UpToSlots _ _ => ukX); (rename Fr h₀ L _ _ => fkX); refine hraise ?zd _ _ _ _ fkX ukX (raisedN_sub rkX ?zs); (case zs => kst_mem); (case zd => first | exact p_nil hcond)))
end Mine
end S_Pdu_nil

section S_Pdu_sfl
open PySem PySem.W PyProof.Rows PySem.Calls
namespace Mine
local macro_rules | `(tactic| k_mem) => `(tactic| ((repeat (first | exact List.Mem.head _ | refine List.Mem.tail _ ?_)); done))
local macro_rules | `(tactic| units_room) => `(tactic| ((try simp only [units_under_make, units_in1, units_deeper, Around.mark_units, cLine_is]); omega))
local macro_rules | `(tactic| k_units) => `(tactic| ((try simp only [units_under_make, units_in1, units_deeper, Around.mark_units, cLine_is]); omega))
local macro_rules | `(tactic| k_room) => `(tactic| ((try simp only [depth_under_make, depth_under_kw, depth_in1, depth_deeper, recursionLimit]); omega))
local macro_rules | `(tactic| ktr_room) => `(tactic| ((try simp only [depth_under_make, depth_under_kw, depth_in1, depth_deeper, recursionLimit]); omega))
local macro_rules | `(tactic| news_mem) => `(tactic| k_mem)

local macro_rules | `(tactic| walk_at "ite") => `(tactic| (k_here; k_openite; k_dflt (first | (refine ite_pos (by ((try simp only [decide_eq_true_eq, beq_iff_eq, bne_iff_ne]); omega)) ?_) | (refine ite_neg (by ((try simp only [decide_eq_true_eq, beq_iff_eq, bne_iff_ne]); omega)) ?_))))
local macro_rules | `(tactic| walk_at "binaryOp Mult int int") => `(tactic| (k_here; k_dflt (refine PyProof.Rows.mul_int ?_ (drop_bits (by with_reducible assumption) _ _ _))))
local macro_rules | `(tactic| k_all) => `(tactic| (k_dflt (refine' rest_ne2 ?ka ?kb; (case ka => with_reducible assumption); (case kb => omega))))
local macro_rules | `(tactic| kst_mem) => `(tactic| (intro p9 hp9; (repeat (first | exact hp9 | refine List.Mem.tail _ ?_))))
local macro_rules | `(tactic| walk_at "subscriptTail") => `(tactic| (k_here; (with_reducible show wpAny _ _ (subscriptTail _ (Expr.Slice _ _ none _) (Value.bytes _ _) (Value.ref _)) _ _ _); (with_reducible rename Fr _ _ _ _ => F'); (with_reducible rename News _ _ _ _ => N'); (refine KBc.slice_K (s := ⟨_, _, _, _, _⟩) F' N' (by with_reducible assumption) (by constructor) (by constructor) (by kba_size) ?_); intro _ _ _ _ _ kbcK; k_dflt ((try simp only [Option.elim, List.drop_zero, Nat.sub_zero] at kbcK); first | rw [clip_drop (by omega)] at kbcK | rw [clip_take (by omega)] at kbcK | fail "slice")))
local macro_rules | `(tactic| walk_at "binaryOp LShift int int") => `(tactic| (k_here; k_dflt (refine' PyProof.Rows.lshift_int_small ?ka ?kb ?kc ?_; (case ka => decide); (case kb => decide); (case kc => first | exact nb_mod _ | exact nb_byte (by with_reducible assumption) (by with_reducible assumption)))))
local macro_rules | `(tactic| walk_at "binaryOp BitAnd int int") => `(tactic| (k_here; k_dflt (refine' and_as ?ke ?_; (case ke => first | (with_reducible exact band_hi (by assumption) (by assumption)) | (with_reducible exact band_lo _)))))
local macro_rules | `(tactic| walk_at "binaryOp BitOr int int") => `(tactic| (k_here; k_dflt (refine' or_as ?ke ?_; (case ke => with_reducible (first | exact or_len (by assumption) (by assumption) | exact or_32 (by assumption) (by assumption) (by assumption) | exact or_16 (by assumption) (by assumption) (by assumption) (by assumption) | exact or_8 (by assumption) (by assumption) (by assumption) (by assumption) (by assumption))))))
local macro_rules | `(tactic| walk_at "getAttr ref") => `(tactic| (k_here; k_dflt (refine' get_clsS ?k1 ?k2 ?k3 ?k4 ?k5 ?k6 ?k7 ?k8 ?k9 ?k10 ?_; (case k1 => k_asm); (case k2 => k_asm); (case k3 => k_inst); (case k4 => k_is); (case k5 => k_is); (case k6 => k_is); (case k7 => k_is); (case k8 => k_is); (case k9 => k_handed); (case k10 => decide +kernel); k_whole)))
local macro_rules | `(tactic| walk_at "binaryOp Mod str int") => `(tactic| (k_here; k_dflt (first | (with_reducible refine' fmt_kind ?ka ?kb ?_; (case ka => exact fm_hi0 (by with_reducible assumption)); (case kb => exact fm_hi1 (by with_reducible assumption))) | (with_reducible refine' fmt_sfl ?ka ?kb ?_; (case ka => exact fm_ah0 (by decide) (by with_reducible assumption)); (case kb => exact fm_ah1 (by decide) (by with_reducible assumption))) | (with_reducible refine' fmt_ff1 ?ka ?kb ?_; (case ka => exact fm_ah0 (by decide) (by with_reducible assumption)); (case kb => exact fm_ah1 (by decide) (by with_reducible assumption))) | (with_reducible refine' fmt_ff2 ?ka ?kb ?_; (case ka => exact fm_ah0 (by decide) (by with_reducible assumption)); (case kb => exact fm_ah1 (by decide) (by with_reducible assumption))) | (with_reducible refine' fmt_fc ?ka ?kb ?_; (case ka => exact fm_ah0 (by decide) (by with_reducible assumption)); (case kb => exact fm_ah1 (by decide) (by with_reducible assumption)))); intro _ _ _))
local macro_rules | `(tactic| walk_at "binaryOp Mod str ref") => `(tactic| (k_here; k_dflt ((with_reducible refine' fmt_sf ?kN ?kb ?k0 ?k1 ?k2 ?k3 ?_); (case kN => with_reducible assumption); (case kb => k_mem); (case k0 => first | exact fm_lo0 _ | with_reducible assumption); (case k1 => first | exact fm_lo1 _ | exact fm_by1 (by with_reducible assumption)); (case k2 => first | exact fm_l1 (by with_reducible assumption) | exact fm_l2 (by with_reducible assumption)); (case k3 => exact fm_lu (by with_reducible assumption) (by decide))); intro _ _ _))
local macro_rules | `(tactic| walk_at "call type:bytes") => `(tactic| (k_here; (with_reducible show wpAny _ _ (call (Value.type "bytes") [] []) _ _ _); k_dflt (refine bytes_nil ?_)))

set_option maxRecDepth 100000 in
set_option maxHeartbeats 8000000 in
theorem pdu_sfl (w : World) : PduClaim w (fun _ row => 0 < row.length ∧ (row.getD (Int.toNat 0) 0).fdiv 16 = 0 ∧ (row.getD (Int.toNat 0) 0).fmod 16 = 0) (fun mx ahead tk => [.ref mx, .int ahead tk]) := by
  intro loose mean mg mb dp un gd cn cs a ccd cl outer A₀ base h₀ L m s Q E mx dx b os ahead tk tb s0 s1 s3 s4 s5 rest hcond B F X N T hk hI h2 hb a0 a1 hd hu hraise hsf hff hcf hfc
  revert X
  k_fill
  intro X
  dsimp only at hcond ⊢
  obtain ⟨hpos, hcA, hcB⟩ := hcond
  obtain ⟨knd, nms, g1, g2, mr⟩ := cs
  dsimp only at hk
  subst hk
  have hb0 := drop_bd hb ahead.toNat 0
  have hb1 := drop_bd hb ahead.toNat 1
  have hb2 := drop_bd hb ahead.toNat 2
  have hf0 := fd16 ((os.drop ahead.toNat).getD 0 0)
  have hm0 := fm16 ((os.drop ahead.toNat).getD 0 0)
  have hq0 : 0 ≤ ((os.drop ahead.toNat).getD (Int.toNat 0) 0).fdiv 16 := fm_hi0 hb0.1
  have hq1 : 0 ≤ ((os.drop ahead.toNat).getD (Int.toNat 0) 0).fmod 16 := fm_lo0 _
  have hv4 := val4_nonneg (drop_all hb ahead.toNat)
  have hlen : (os.drop ahead.toNat).length = os.length - ahead.toNat := List.length_drop ..
  have hrow := drop_all hb ahead.toNat
  have hposI : (0 : Int) < ((os.length - ahead.toNat : Nat) : Int) := by omega
  k_steps
  all_goals (try ((with_reducible show InitBack _ _ (Except.error _) _); (rename RaisedN _ _ _ _ _ _ => rkX); (rename Heap.UpToSlots _ _ => ukX); (rename Fr h₀ L _ _ => fkX); refine hraise ?zd _ _ _ _ fkX ukX (raisedN_sub rkX ?zs); (case zs => kst_mem); (case zd => first | exact p_sfl_n1 hlen hpos hrow hcA hcB (by with_reducible assumption) | exact p_sfl_n2 hlen hpos hrow hcA hcB (by with_reducible assumption) (by with_reducible assumption) | exact p_sfl_n3 hlen hpos hrow hcA hcB (by with_reducible assumption) (by with_reducible assumption) (by with_reducible assumption))))
  all_goals (try ((rename News h₀ L _ _ => nkX); (rename Fr h₀ L _ _ => fkX); refine' hsf _ _ _ _ ?zd ?zk _ _ _ _ _ _ _ _ _ _ 0 0 0 fkX nkX ?zi; (case zi => with_reducible assumption); (case zk => with_reducible assumption); (case zd => first | exact p_sfl hlen hpos hrow hcA hcB (by with_reducible assumption) (by with_reducible assumption) (by with_reducible assumption))))
end Mine
end S_Pdu_sfl

section S_Pdu_sfs
open PySem PySem.W PyProof.Rows PySem.Calls
namespace Mine
local macro_rules | `(tactic| k_mem) => `(tactic| ((repeat (first | exact List.Mem.head _ | refine List.Mem.tail _ ?_)); done))
local macro_rules | `(tactic| units_room) => `(tactic| ((try simp only [units_under_make, units_in1, units_deeper, Around.mark_units, cLine_is]); omega))
local macro_rules | `(tactic| k_units) => `(tactic| ((try simp only [units_under_make, units_in1, units_deeper, Around.mark_units, cLine_is]); omega))
local macro_rules | `(tactic| k_room) => `(tactic| ((try simp only [depth_under_make, depth_under_kw, depth_in1, depth_deeper, recursionLimit]); omega))
local macro_rules | `(tactic| ktr_room) => `(tactic| ((try simp only [depth_under_make, depth_under_kw, depth_in1, depth_deeper, recursionLimit]); omega))
local macro_rules | `(tactic| news_mem) => `(tactic| k_mem)

local macro_rules | `(tactic| walk_at "ite") => `(tactic| (k_here; k_openite; k_dflt (first | (refine ite_pos (by ((try simp only [decide_eq_true_eq, beq_iff_eq, bne_iff_ne]); omega)) ?_) | (refine ite_neg (by ((try simp only [decide_eq_true_eq, beq_iff_eq, bne_iff_ne]); omega)) ?_))))
local macro_rules | `(tactic| walk_at "binaryOp Mult int int") => `(tactic| (k_here; k_dflt (refine PyProof.Rows.mul_int ?_ (drop_bits (by with_reducible assumption) _ _ _))))
local macro_rules | `(tactic| k_all) => `(tactic| (k_dflt (refine' rest_ne2 ?ka ?kb; (case ka => with_reducible assumption); (case kb => omega))))
local macro_rules | `(tactic| kst_mem) => `(tactic| (intro p9 hp9; (repeat (first | exact hp9 | refine List.Mem.tail _ ?_))))
local macro_rules | `(tactic| walk_at "subscriptTail") => `(tactic| (k_here; (with_reducible show wpAny _ _ (subscriptTail _ (Expr.Slice _ _ none _) (Value.bytes _ _) (Value.ref _)) _ _ _); (with_reducible rename Fr _ _ _ _ => F'); (with_reducible rename News _ _ _ _ => N'); (refine KBc.slice_K (s := ⟨_, _, _, _, _⟩) F' N' (by with_reducible assumption) (by constructor) (by constructor) (by kba_size) ?_); intro _ _ _ _ _ kbcK; k_dflt ((try simp only [Option.elim, List.drop_zero, Nat.sub_zero] at kbcK); first | rw [clip_drop (by omega)] at kbcK | rw [clip_take (by omega)] at kbcK | fail "slice")))
local macro_rules | `(tactic| walk_at "binaryOp LShift int int") => `(tactic| (k_here; k_dflt (refine' PyProof.Rows.lshift_int_small ?ka ?kb ?kc ?_; (case ka => decide); (case kb => decide); (case kc => first | exact nb_mod _ | exact nb_byte (by with_reducible assumption) (by with_reducible assumption)))))
local macro_rules | `(tactic| walk_at "binaryOp BitAnd int int") => `(tactic| (k_here; k_dflt (refine' and_as ?ke ?_; (case ke => first | (with_reducible exact band_hi (by assumption) (by assumption)) | (with_reducible exact band_lo _)))))
local macro_rules | `(tactic| walk_at "binaryOp BitOr int int") => `(tactic| (k_here; k_dflt (refine' or_as ?ke ?_; (case ke => with_reducible (first | exact or_len (by assumption) (by assumption) | exact or_32 (by assumption) (by assumption) (by assumption) | exact or_16 (by assumption) (by assumption) (by assumption) (by assumption) | exact or_8 (by assumption) (by assumption) (by assumption) (by assumption) (by assumption))))))
local macro_rules | `(tactic| walk_at "getAttr ref") => `(tactic| (k_here; k_dflt (refine' get_clsS ?k1 ?k2 ?k3 ?k4 ?k5 ?k6 ?k7 ?k8 ?k9 ?k10 ?_; (case k1 => k_asm); (case k2 => k_asm); (case k3 => k_inst); (case k4 => k_is); (case k5 => k_is); (case k6 => k_is); (case k7 => k_is); (case k8 => k_is); (case k9 => k_handed); (case k10 => decide +kernel); k_whole)))
local macro_rules | `(tactic| walk_at "binaryOp Mod str int") => `(tactic| (k_here; k_dflt (first | (with_reducible refine' fmt_kind ?ka ?kb ?_; (case ka => exact fm_hi0 (by with_reducible assumption)); (case kb => exact fm_hi1 (by with_reducible assumption))) | (with_reducible refine' fmt_sfl ?ka ?kb ?_; (case ka => exact fm_ah0 (by decide) (by with_reducible assumption)); (case kb => exact fm_ah1 (by decide) (by with_reducible assumption))) | (with_reducible refine' fmt_ff1 ?ka ?kb ?_; (case ka => exact fm_ah0 (by decide) (by with_reducible assumption)); (case kb => exact fm_ah1 (by decide) (by with_reducible assumption))) | (with_reducible refine' fmt_ff2 ?ka ?kb ?_; (case ka => exact fm_ah0 (by decide) (by with_reducible assumption)); (case kb => exact fm_ah1 (by decide) (by with_reducible assumption))) | (with_reducible refine' fmt_fc ?ka ?kb ?_; (case ka => exact fm_ah0 (by decide) (by with_reducible assumption)); (case kb => exact fm_ah1 (by decide) (by with_reducible assumption)))); intro _ _ _))
local macro_rules | `(tactic| walk_at "binaryOp Mod str ref") => `(tactic| (k_here; k_dflt ((with_reducible refine' fmt_sf ?kN ?kb ?k0 ?k1 ?k2 ?k3 ?_); (case kN => with_reducible assumption); (case kb => k_mem); (case k0 => first | exact fm_lo0 _ | with_reducible assumption); (case k1 => first | exact fm_lo1 _ | exact fm_by1 (by with_reducible assumption)); (case k2 => first | exact fm_l1 (by with_reducible assumption) | exact fm_l2 (by with_reducible assumption)); (case k3 => exact fm_lu (by with_reducible assumption) (by decide))); intro _ _ _))
local macro_rules | `(tactic| walk_at "call type:bytes") => `(tactic| (k_here; (with_reducible show wpAny _ _ (call (Value.type "bytes") [] []) _ _ _); k_dflt (refine bytes_nil ?_)))

set_option maxRecDepth 100000 in
set_option maxHeartbeats 8000000 in
theorem pdu_sfs (w : World) : PduClaim w (fun _ row => 0 < row.length ∧ (row.getD (Int.toNat 0) 0).fdiv 16 = 0 ∧ (row.getD (Int.toNat 0) 0).fmod 16 ≠ 0) (fun mx ahead tk => [.ref mx, .int ahead tk]) := by
  intro loose mean mg mb dp un gd cn cs a ccd cl outer A₀ base h₀ L m s Q E mx dx b os ahead tk tb s0 s1 s3 s4 s5 rest hcond B F X N T hk hI h2 hb a0 a1 hd hu hraise hsf hff hcf hfc
  revert X
  k_fill
  intro X
  dsimp only at hcond ⊢
  obtain ⟨hpos, hcA, hcB⟩ := hcond
  obtain ⟨knd, nms, g1, g2, mr⟩ := cs
  dsimp only at hk
  subst hk
  have hb0 := drop_bd hb ahead.toNat 0
  have hb1 := drop_bd hb ahead.toNat 1
  have hb2 := drop_bd hb ahead.toNat 2
  have hf0 := fd16 ((os.drop ahead.toNat).getD 0 0)
  have hm0 := fm16 ((os.drop ahead.toNat).getD 0 0)
  have hq0 : 0 ≤ ((os.drop ahead.toNat).getD (Int.toNat 0) 0).fdiv 16 := fm_hi0 hb0.1
  have hq1 : 0 ≤ ((os.drop ahead.toNat).getD (Int.toNat 0) 0).fmod 16 := fm_lo0 _
  have hv4 := val4_nonneg (drop_all hb ahead.toNat)
  have hlen : (os.drop ahead.toNat).length = os.length - ahead.toNat := List.length_drop ..
  have hrow := drop_all hb ahead.toNat
  have hposI : (0 : Int) < ((os.length - ahead.toNat : Nat) : Int) := by omega
  k_steps
  all_goals (try ((with_reducible show InitBack _ _ (Except.error _) _); (rename RaisedN _ _ _ _ _ _ => rkX); (rename Heap.UpToSlots _ _ => ukX); (rename Fr h₀ L _ _ => fkX); refine hraise ?zd _ _ _ _ fkX ukX (raisedN_sub rkX ?zs); (case zs => kst_mem); (case zd => first | exact p_sfs_n hlen hpos hrow hcA hcB (by with_reducible assumption))))
  all_goals (try ((rename News h₀ L _ _ => nkX); (rename Fr h₀ L _ _ => fkX); refine' hsf _ _ _ _ ?zd ?zk _ _ _ _ _ _ _ _ _ _ 0 0 0 fkX nkX ?zi; (case zi => with_reducible assumption); (case zk => with_reducible assumption); (case zd => first | exact p_sfs hlen hpos hrow hcA hcB (by with_reducible assumption))))
end Mine
end S_Pdu_sfs

section S_Pdu_ff
open PySem PySem.W PyProof.Rows PySem.Calls
namespace Mine
local macro_rules | `(tactic| k_mem) => `(tactic| ((repeat (first | exact List.Mem.head _ | refine List.Mem.tail _ ?_)); done))
local macro_rules | `(tactic| units_room) => `(tactic| ((try simp only [units_under_make, units_in1, units_deeper, Around.mark_units, cLine_is]); omega))
local macro_rules | `(tactic| k_units) => `(tactic| ((try simp only [units_under_make, units_in1, units_deeper, Around.mark_units, cLine_is]); omega))
local macro_rules | `(tactic| k_room) => `(tactic| ((try simp only [depth_under_make, depth_under_kw, depth_in1, depth_deeper, recursionLimit]); omega))
local macro_rules | `(tactic| ktr_room) => `(tactic| ((try simp only [depth_under_make, depth_under_kw, depth_in1, depth_deeper, recursionLimit]); omega))
local macro_rules | `(tactic| news_mem) => `(tactic| k_mem)

local macro_rules | `(tactic| walk_at "ite") => `(tactic| (k_here; k_openite; k_dflt (first | (refine ite_pos (by ((try simp only [decide_eq_true_eq, beq_iff_eq, bne_iff_ne]); omega)) ?_) | (refine ite_neg (by ((try simp only [decide_eq_true_eq, beq_iff_eq, bne_iff_ne]); omega)) ?_))))
local macro_rules | `(tactic| walk_at "binaryOp Mult int int") => `(tactic| (k_here; k_dflt (refine PyProof.Rows.mul_int ?_ (drop_bits (by with_reducible assumption) _ _ _))))
local macro_rules | `(tactic| k_all) => `(tactic| (k_dflt (refine' rest_ne2 ?ka ?kb; (case ka => with_reducible assumption); (case kb => omega))))
local macro_rules | `(tactic| kst_mem) => `(tactic| (intro p9 hp9; (repeat (first | exact hp9 | refine List.Mem.tail _ ?_))))
local macro_rules | `(tactic| walk_at "subscriptTail") => `(tactic| (k_here; (with_reducible show wpAny _ _ (subscriptTail _ (Expr.Slice _ _ none _) (Value.bytes _ _) (Value.ref _)) _ _ _); (with_reducible rename Fr _ _ _ _ => F'); (with_reducible rename News _ _ _ _ => N'); (refine KBc.slice_K (s := ⟨_, _, _, _, _⟩) F' N' (by with_reducible assumption) (by constructor) (by constructor) (by kba_size) ?_); intro _ _ _ _ _ kbcK; k_dflt ((try simp only [Option.elim, List.drop_zero, Nat.sub_zero] at kbcK); first | rw [clip_drop (by omega)] at kbcK | rw [clip_take (by omega)] at kbcK | fail "slice")))
local macro_rules | `(tactic| walk_at "binaryOp LShift int int") => `(tactic| (k_here; k_dflt (refine' PyProof.Rows.lshift_int_small ?ka ?kb ?kc ?_; (case ka => decide); (case kb => decide); (case kc => first | exact nb_mod _ | exact nb_byte (by with_reducible assumption) (by with_reducible assumption)))))
local macro_rules | `(tactic| walk_at "binaryOp BitAnd int int") => `(tactic| (k_here; k_dflt (refine' and_as ?ke ?_; (case ke => first | (with_reducible exact band_hi (by assumption) (by assumption)) | (with_reducible exact band_lo _)))))
local macro_rules | `(tactic| walk_at "binaryOp BitOr int int") => `(tactic| (k_here; k_dflt (refine' or_as ?ke ?_; (case ke => with_reducible (first | exact or_len (by assumption) (by assumption) | exact or_32 (by assumption) (by assumption) (by assumption) | exact or_16 (by assumption) (by assumption) (by assumption) (by assumption) | exact or_8 (by assumption) (by assumption) (by assumption) (by assumption) (by assumption))))))
local macro_rules | `(tactic| walk_at "getAttr ref") => `(tactic| (k_here; k_dflt (refine' get_clsS ?k1 ?k2 ?k3 ?k4 ?k5 ?k6 ?k7 ?k8 ?k9 ?k10 ?_; (case k1 => k_asm); (case k2 => k_asm); (case k3 => k_inst); (case k4 => k_is); (case k5 => k_is); (case k6 => k_is); (case k7 => k_is); (case k8 => k_is); (case k9 => k_handed); (case k10 => decide +kernel); k_whole)))
local macro_rules | `(tactic| walk_at "binaryOp Mod str int") => `(tactic| (k_here; k_dflt (first | (with_reducible refine' fmt_kind ?ka ?kb ?_; (case ka => exact fm_hi0 (by with_reducible assumption)); (case kb => exact fm_hi1 (by with_reducible assumption))) | (with_reducible refine' fmt_sfl ?ka ?kb ?_; (case ka => exact fm_ah0 (by decide) (by with_reducible assumption)); (case kb => exact fm_ah1 (by decide) (by with_reducible assumption))) | (with_reducible refine' fmt_ff1 ?ka ?kb ?_; (case ka => exact fm_ah0 (by decide) (by with_reducible assumption)); (case kb => exact fm_ah1 (by decide) (by with_reducible assumption))) | (with_reducible refine' fmt_ff2 ?ka ?kb ?_; (case ka => exact fm_ah0 (by decide) (by with_reducible assumption)); (case kb => exact fm_ah1 (by decide) (by with_reducible assumption))) | (with_reducible refine' fmt_fc ?ka ?kb ?_; (case ka => exact fm_ah0 (by decide) (by with_reducible assumption)); (case kb => exact fm_ah1 (by decide) (by with_reducible assumption)))); intro _ _ _))
local macro_rules | `(tactic| walk_at "binaryOp Mod str ref") => `(tactic| (k_here; k_dflt ((with_reducible refine' fmt_sf ?kN ?kb ?k0 ?k1 ?k2 ?k3 ?_); (case kN => with_reducible assumption); (case kb => k_mem); (case k0 => first | exact fm_lo0 _ | with_reducible assumption); (case k1 => first | exact fm_lo1 _ | exact fm_by1 (by with_reducible assumption)); (case k2 => first | exact fm_l1 (by with_reducible assumption) | exact fm_l2 (by with_reducible assumption)); (case k3 => exact fm_lu (by with_reducible assumption) (by decide))); intro _ _ _))
local macro_rules | `(tactic| walk_at "call type:bytes") => `(tactic| (k_here; (with_reducible show wpAny _ _ (call (Value.type "bytes") [] []) _ _ _); k_dflt (refine bytes_nil ?_)))

set_option maxRecDepth 100000 in
set_option maxHeartbeats 8000000 in
theorem pdu_ff (w : World) : PduClaim w (fun _ row => 0 < row.length ∧ (row.getD (Int.toNat 0) 0).fdiv 16 = 1) (fun mx ahead tk => [.ref mx, .int ahead tk]) := by
  intro loose mean mg mb dp un gd cn cs a ccd cl outer A₀ base h₀ L m s Q E mx dx b os ahead tk tb s0 s1 s3 s4 s5 rest hcond B F X N T hk hI h2 hb a0 a1 hd hu hraise hsf hff hcf hfc
  revert X
  k_fill
  intro X
  dsimp only at hcond ⊢
  obtain ⟨hpos, hcA⟩ := hcond
  obtain ⟨knd, nms, g1, g2, mr⟩ := cs
  dsimp only at hk
  subst hk
  have hb0 := drop_bd hb ahead.toNat 0
  have hb1 := drop_bd hb ahead.toNat 1
  have hb2 := drop_bd hb ahead.toNat 2
  have hf0 := fd16 ((os.drop ahead.toNat).getD 0 0)
  have hm0 := fm16 ((os.drop ahead.toNat).getD 0 0)
  have hq0 : 0 ≤ ((os.drop ahead.toNat).getD (Int.toNat 0) 0).fdiv 16 := fm_hi0 hb0.1
  have hq1 : 0 ≤ ((os.drop ahead.toNat).getD (Int.toNat 0) 0).fmod 16 := fm_lo0 _
  have hv4 := val4_nonneg (drop_all hb ahead.toNat)
  have hlen : (os.drop ahead.toNat).length = os.length - ahead.toNat := List.length_drop ..
  have hrow := drop_all hb ahead.toNat
  have hposI : (0 : Int) < ((os.length - ahead.toNat : Nat) : Int) := by omega
  k_steps
  all_goals (try ((with_reducible show InitBack _ _ (Except.error _) _); (rename RaisedN _ _ _ _ _ _ => rkX); (rename Heap.UpToSlots _ _ => ukX); (rename Fr h₀ L _ _ => fkX); refine hraise ?zd _ _ _ _ fkX ukX (raisedN_sub rkX ?zs); (case zs => kst_mem); (case zd => first | exact p_ff_n1 hlen hpos hrow hcA (by with_reducible assumption) | exact p_ff_n2 hlen hpos hrow hcA (by with_reducible assumption) (by with_reducible assumption) (by with_reducible assumption))))
  all_goals (try ((rename News h₀ L _ _ => nkX); (rename Fr h₀ L _ _ => fkX); refine' hff _ _ _ _ ?zd ?zk _ _ _ _ _ _ _ _ _ _ 0 0 0 fkX nkX ?zi; (case zi => with_reducible assumption); (case zk => with_reducible assumption); (case zd => first | exact p_ffs hlen hpos hrow hcA (by with_reducible assumption) (by with_reducible assumption) | exact p_ffl hlen hpos hrow hcA (by with_reducible assumption) (by with_reducible assumption) (by with_reducible assumption))))
end Mine
end S_Pdu_ff

section S_Pdu_cf
open PySem PySem.W PyProof.Rows PySem.Calls
namespace Mine
local macro_rules | `(tactic| k_mem) => `(tactic| ((repeat (first | exact List.Mem.head _ | refine List.Mem.tail _ ?_)); done))
local macro_rules | `(tactic| units_room) => `(tactic| ((try simp only [units_under_make, units_in1, units_deeper, Around.mark_units, cLine_is]); omega))
local macro_rules | `(tactic| k_units) => `(tactic| ((try simp only [units_under_make, units_in1, units_deeper, Around.mark_units, cLine_is]); omega))
local macro_rules | `(tactic| k_room) => `(tactic| ((try simp only [depth_under_make, depth_under_kw, depth_in1, depth_deeper, recursionLimit]); omega))
local macro_rules | `(tactic| ktr_room) => `(tactic| ((try simp only [depth_under_make, depth_under_kw, depth_in1, depth_deeper, recursionLimit]); omega))
local macro_rules | `(tactic| news_mem) => `(tactic| k_mem)

local macro_rules | `(tactic| walk_at "ite") => `(tactic| (k_here; k_openite; k_dflt (first | (refine ite_pos (by ((try simp only [decide_eq_true_eq, beq_iff_eq, bne_iff_ne]); omega)) ?_) | (refine ite_neg (by ((try simp only [decide_eq_true_eq, beq_iff_eq, bne_iff_ne]); omega)) ?_))))
local macro_rules | `(tactic| walk_at "binaryOp Mult int int") => `(tactic| (k_here; k_dflt (refine PyProof.Rows.mul_int ?_ (drop_bits (by with_reducible assumption) _ _ _))))
local macro_rules | `(tactic| k_all) => `(tactic| (k_dflt (refine' rest_ne2 ?ka ?kb; (case ka => with_reducible assumption); (case kb => omega))))
local macro_rules | `(tactic| kst_mem) => `(tactic| (intro p9 hp9; (repeat (first | exact hp9 | refine List.Mem.tail _ ?_))))
local macro_rules | `(tactic| walk_at "subscriptTail") => `(tactic| (k_here; (with_reducible show wpAny _ _ (subscriptTail _ (Expr.Slice _ _ none _) (Value.bytes _ _) (Value.ref _)) _ _ _); (with_reducible rename Fr _ _ _ _ => F'); (with_reducible rename News _ _ _ _ => N'); (refine KBc.slice_K (s := ⟨_, _, _, _, _⟩) F' N' (by with_reducible assumption) (by constructor) (by constructor) (by kba_size) ?_); intro _ _ _ _ _ kbcK; k_dflt ((try simp only [Option.elim, List.drop_zero, Nat.sub_zero] at kbcK); first | rw [clip_drop (by omega)] at kbcK | rw [clip_take (by omega)] at kbcK | fail "slice")))
local macro_rules | `(tactic| walk_at "binaryOp LShift int int") => `(tactic| (k_here; k_dflt (refine' PyProof.Rows.lshift_int_small ?ka ?kb ?kc ?_; (case ka => decide); (case kb => decide); (case kc => first | exact nb_mod _ | exact nb_byte (by with_reducible assumption) (by with_reducible assumption)))))
local macro_rules | `(tactic| walk_at "binaryOp BitAnd int int") => `(tactic| (k_here; k_dflt (refine' and_as ?ke ?_; (case ke => first | (with_reducible exact band_hi (by assumption) (by assumption)) | (with_reducible exact band_lo _)))))
local macro_rules | `(tactic| walk_at "binaryOp BitOr int int") => `(tactic| (k_here; k_dflt (refine' or_as ?ke ?_; (case ke => with_reducible (first | exact or_len (by assumption) (by assumption) | exact or_32 (by assumption) (by assumption) (by assumption) | exact or_16 (by assumption) (by assumption) (by assumption) (by assumption) | exact or_8 (by assumption) (by assumption) (by assumption) (by assumption) (by assumption))))))
local macro_rules | `(tactic| walk_at "getAttr ref") => `(tactic| (k_here; k_dflt (refine' get_clsS ?k1 ?k2 ?k3 ?k4 ?k5 ?k6 ?k7 ?k8 ?k9 ?k10 ?_; (case k1 => k_asm); (case k2 => k_asm); (case k3 => k_inst); (case k4 => k_is); (case k5 => k_is); (case k6 => k_is); (case k7 => k_is); (case k8 => k_is); (case k9 => k_handed); (case k10 => decide +kernel); k_whole)))
local macro_rules | `(tactic| walk_at "binaryOp Mod str int") => `(tactic| (k_here; k_dflt (first | (with_reducible refine' fmt_kind ?ka ?kb ?_; (case ka => exact fm_hi0 (by with_reducible assumption)); (case kb => exact fm_hi1 (by with_reducible assumption))) | (with_reducible refine' fmt_sfl ?ka ?kb ?_; (case ka => exact fm_ah0 (by decide) (by with_reducible assumption)); (case kb => exact fm_ah1 (by decide) (by with_reducible assumption))) | (with_reducible refine' fmt_ff1 ?ka ?kb ?_; (case ka => exact fm_ah0 (by decide) (by with_reducible assumption)); (case kb => exact fm_ah1 (by decide) (by with_reducible assumption))) | (with_reducible refine' fmt_ff2 ?ka ?kb ?_; (case ka => exact fm_ah0 (by decide) (by with_reducible assumption)); (case kb => exact fm_ah1 (by decide) (by with_reducible assumption))) | (with_reducible refine' fmt_fc ?ka ?kb ?_; (case ka => exact fm_ah0 (by decide) (by with_reducible assumption)); (case kb => exact fm_ah1 (by decide) (by with_reducible assumption)))); intro _ _ _))
local macro_rules | `(tactic| walk_at "binaryOp Mod str ref") => `(tactic| (k_here; k_dflt ((with_reducible refine' fmt_sf ?kN ?kb ?k0 ?k1 ?k2 ?k3 ?_); (case kN => with_reducible assumption); (case kb => k_mem); (case k0 => first | exact fm_lo0 _ | with_reducible assumption); (case k1 => first | exact fm_lo1 _ | exact fm_by1 (by with_reducible assumption)); (case k2 => first | exact fm_l1 (by with_reducible assumption) | exact fm_l2 (by with_reducible assumption)); (case k3 => exact fm_lu (by with_reducible assumption) (by decide))); intro _ _ _))
local macro_rules | `(tactic| walk_at "call type:bytes") => `(tactic| (k_here; (with_reducible show wpAny _ _ (call (Value.type "bytes") [] []) _ _ _); k_dflt (refine bytes_nil ?_)))

set_option maxRecDepth 100000 in
set_option maxHeartbeats 8000000 in
theorem pdu_cf (w : World) : PduClaim w (fun _ row => 0 < row.length ∧ (row.getD (Int.toNat 0) 0).fdiv 16 = 2) (fun mx ahead tk => [.ref mx, .int ahead tk]) := by
  intro loose mean mg mb dp un gd cn cs a ccd cl outer A₀ base h₀ L m s Q E mx dx b os ahead tk tb s0 s1 s3 s4 s5 rest hcond B F X N T hk hI h2 hb a0 a1 hd hu hraise hsf hff hcf hfc
  revert X
  k_fill
  intro X
  dsimp only at hcond ⊢
  obtain ⟨hpos, hcA⟩ := hcond
  obtain ⟨knd, nms, g1, g2, mr⟩ := cs
  dsimp only at hk
  subst hk
  have hb0 := drop_bd hb ahead.toNat 0
  have hb1 := drop_bd hb ahead.toNat 1
  have hb2 := drop_bd hb ahead.toNat 2
  have hf0 := fd16 ((os.drop ahead.toNat).getD 0 0)
  have hm0 := fm16 ((os.drop ahead.toNat).getD 0 0)
  have hq0 : 0 ≤ ((os.drop ahead.toNat).getD (Int.toNat 0) 0).fdiv 16 := fm_hi0 hb0.1
  have hq1 : 0 ≤ ((os.drop ahead.toNat).getD (Int.toNat 0) 0).fmod 16 := fm_lo0 _
  have hv4 := val4_nonneg (drop_all hb ahead.toNat)
  have hlen : (os.drop ahead.toNat).length = os.length - ahead.toNat := List.length_drop ..
  have hrow := drop_all hb ahead.toNat
  have hposI : (0 : Int) < ((os.length - ahead.toNat : Nat) : Int) := by omega
  k_steps
  all_goals (try ((rename News h₀ L _ _ => nkX); (rename Fr h₀ L _ _ => fkX); refine' hcf _ _ _ ?zd ?zk _ _ _ _ _ _ _ _ _ _ 0 0 0 fkX nkX ?zi; (case zi => with_reducible assumption); (case zk => with_reducible assumption); (case zd => first | exact p_cf hlen hpos hrow hcA)))
end Mine
end S_Pdu_cf

section S_Pdu_fc
open PySem PySem.W PyProof.Rows PySem.Calls
namespace Mine
local macro_rules | `(tactic| k_mem) => `(tactic| ((repeat (first | exact List.Mem.head _ | refine List.Mem.tail _ ?_)); done))
local macro_rules | `(tactic| units_room) => `(tactic| ((try simp only [units_under_make, units_in1, units_deeper, Around.mark_units, cLine_is]); omega))
local macro_rules | `(tactic| k_units) => `(tactic| ((try simp only [units_under_make, units_in1, units_deeper, Around.mark_units, cLine_is]); omega))
local macro_rules | `(tactic| k_room) => `(tactic| ((try simp only [depth_under_make, depth_under_kw, depth_in1, depth_deeper, recursionLimit]); omega))
local macro_rules | `(tactic| ktr_room) => `(tactic| ((try simp only [depth_under_make, depth_under_kw, depth_in1, depth_deeper, recursionLimit]); omega))
local macro_rules | `(tactic| news_mem) => `(tactic| k_mem)

local macro_rules | `(tactic| walk_at "ite") => `(tactic| (k_here; k_openite; k_dflt (first | (refine ite_pos (by ((try simp only [decide_eq_true_eq, beq_iff_eq, bne_iff_ne]); omega)) ?_) | (refine ite_neg (by ((try simp only [decide_eq_true_eq, beq_iff_eq, bne_iff_ne]); omega)) ?_))))
local macro_rules | `(tactic| walk_at "binaryOp Mult int int") => `(tactic| (k_here; k_dflt (refine PyProof.Rows.mul_int ?_ (drop_bits (by with_reducible assumption) _ _ _))))
local macro_rules | `(tactic| k_all) => `(tactic| (k_dflt (refine' rest_ne2 ?ka ?kb; (case ka => with_reducible assumption); (case kb => omega))))
local macro_rules | `(tactic| kst_mem) => `(tactic| (intro p9 hp9; (repeat (first | exact hp9 | refine List.Mem.tail _ ?_))))
local macro_rules | `(tactic| walk_at "subscriptTail") => `(tactic| (k_here; (with_reducible show wpAny _ _ (subscriptTail _ (Expr.Slice _ _ none _) (Value.bytes _ _) (Value.ref _)) _ _ _); (with_reducible rename Fr _ _ _ _ => F'); (with_reducible rename News _ _ _ _ => N'); (refine KBc.slice_K (s := ⟨_, _, _, _, _⟩) F' N' (by with_reducible assumption) (by constructor) (by constructor) (by kba_size) ?_); intro _ _ _ _ _ kbcK; k_dflt ((try simp only [Option.elim, List.drop_zero, Nat.sub_zero] at kbcK); first | rw [clip_drop (by omega)] at kbcK | rw [clip_take (by omega)] at kbcK | fail "slice")))
local macro_rules | `(tactic| walk_at "binaryOp LShift int int") => `(tactic| (k_here; k_dflt (refine' PyProof.Rows.lshift_int_small ?ka ?kb ?kc ?_; (case ka => decide); (case kb => decide); (case kc => first | exact nb_mod _ | exact nb_byte (by with_reducible assumption) (by with_reducible assumption)))))
local macro_rules | `(tactic| walk_at "binaryOp BitAnd int int") => `(tactic| (k_here; k_dflt (refine' and_as ?ke ?_; (case ke => first | (with_reducible exact band_hi (by assumption) (by assumption)) | (with_reducible exact band_lo _)))))
local macro_rules | `(tactic| walk_at "binaryOp BitOr int int") => `(tactic| (k_here; k_dflt (refine' or_as ?ke ?_; (case ke => with_reducible (first | exact or_len (by assumption) (by assumption) | exact or_32 (by assumption) (by assumption) (by assumption) | exact or_16 (by assumption) (by assumption) (by assumption) (by assumption) | exact or_8 (by assumption) (by assumption) (by assumption) (by assumption) (by assumption))))))
local macro_rules | `(tactic| walk_at "getAttr ref") => `(tactic| (k_here; k_dflt (refine' get_clsS ?k1 ?k2 ?k3 ?k4 ?k5 ?k6 ?k7 ?k8 ?k9 ?k10 ?_; (case k1 => k_asm); (case k2 => k_asm); (case k3 => k_inst); (case k4 => k_is); (case k5 => k_is); (case k6 => k_is); (case k7 => k_is); (case k8 => k_is); (case k9 => k_handed); (case k10 => decide +kernel); k_whole)))
local macro_rules | `(tactic| walk_at "binaryOp Mod str int") => `(tactic| (k_here; k_dflt (first | (with_reducible refine' fmt_kind ?ka ?kb ?_; (case ka => exact fm_hi0 (by with_reducible assumption)); (case kb => exact fm_hi1 (by with_reducible assumption))) | (with_reducible refine' fmt_sfl ?ka ?kb ?_; (case ka => exact fm_ah0 (by decide) (by with_reducible assumption)); (case kb => exact fm_ah1 (by decide) (by with_reducible assumption))) | (with_reducible refine' fmt_ff1 ?ka ?kb ?_; (case ka => exact fm_ah0 (by decide) (by with_reducible assumption)); (case kb => exact fm_ah1 (by decide) (by with_reducible assumption))) | (with_reducible refine' fmt_ff2 ?ka ?kb ?_; (case ka => exact fm_ah0 (by decide) (by with_reducible assumption)); (case kb => exact fm_ah1 (by decide) (by with_reducible assumption))) | (with_reducible refine' fmt_fc ?ka ?kb ?_; (case ka => exact fm_ah0 (by decide) (by with_reducible assumption)); (case kb => exact fm_ah1 (by decide) (by with_reducible assumption)))); intro _ _ _))
local macro_rules | `(tactic| walk_at "binaryOp Mod str ref") => `(tactic| (k_here; k_dflt ((with_reducible refine' fmt_sf ?kN ?kb ?k0 ?k1 ?k2 ?k3 ?_); (case kN => with_reducible assumption); (case kb => k_mem); (case k0 => first | exact fm_lo0 _ | with_reducible assumption); (case k1 => first | exact fm_lo1 _ | exact fm_by1 (by with_reducible assumption)); (case k2 => first | exact fm_l1 (by with_reducible assumption) | exact fm_l2 (by with_reducible assumption)); (case k3 => exact fm_lu (by with_reducible assumption) (by decide))); intro _ _ _))
local macro_rules | `(tactic| walk_at "call type:bytes") => `(tactic| (k_here; (with_reducible show wpAny _ _ (call (Value.type "bytes") [] []) _ _ _); k_dflt (refine bytes_nil ?_)))

set_option maxRecDepth 100000 in
set_option maxHeartbeats 8000000 in
theorem pdu_fc (w : World) : PduClaim w (fun _ row => 0 < row.length ∧ (row.getD (Int.toNat 0) 0).fdiv 16 = 3) (fun mx ahead tk => [.ref mx, .int ahead tk]) := by
  intro loose mean mg mb dp un gd cn cs a ccd cl outer A₀ base h₀ L m s Q E mx dx b os ahead tk tb s0 s1 s3 s4 s5 rest hcond B F X N T hk hI h2 hb a0 a1 hd hu hraise hsf hff hcf hfc
  revert X
  k_fill
  intro X
  dsimp only at hcond ⊢
  obtain ⟨hpos, hcA⟩ := hcond
  obtain ⟨knd, nms, g1, g2, mr⟩ := cs
  dsimp only at hk
  subst hk
  have hb0 := drop_bd hb ahead.toNat 0
  have hb1 := drop_bd hb ahead.toNat 1
  have hb2 := drop_bd hb ahead.toNat 2
  have hf0 := fd16 ((os.drop ahead.toNat).getD 0 0)
  have hm0 := fm16 ((os.drop ahead.toNat).getD 0 0)
  have hq0 : 0 ≤ ((os.drop ahead.toNat).getD (Int.toNat 0) 0).fdiv 16 := fm_hi0 hb0.1
  have hq1 : 0 ≤ ((os.drop ahead.toNat).getD (Int.toNat 0) 0).fmod 16 := fm_lo0 _
  have hv4 := val4_nonneg (drop_all hb ahead.toNat)
  have hlen : (os.drop ahead.toNat).length = os.length - ahead.toNat := List.length_drop ..
  have hrow := drop_all hb ahead.toNat
  have hposI : (0 : Int) < ((os.length - ahead.toNat : Nat) : Int) := by omega
  k_steps
  all_goals (try ((with_reducible show InitBack _ _ (Except.error _) _); (rename RaisedN _ _ _ _ _ _ => rkX); (rename Heap.UpToSlots _ _ => ukX); (rename Fr h₀ L _ _ => fkX); refine hraise ?zd _ _ _ _ fkX ukX (raisedN_sub rkX ?zs); (case zs => kst_mem); (case zd => first | exact p_fc_n1 hlen hpos hrow hcA (by with_reducible assumption) | exact p_fc_n2 hlen hpos hrow hcA (by with_reducible assumption) (by with_reducible assumption) | exact p_fc_n3 hlen hpos hrow hcA (by with_reducible assumption) (by with_reducible assumption) (by with_reducible assumption) (by with_reducible assumption) (by with_reducible assumption) | exact p_fc_n4 hlen hpos hrow hcA (by with_reducible assumption) (by with_reducible assumption) (by with_reducible assumption) (by with_reducible assumption))))
  all_goals (try ((rename News h₀ L _ _ => nkX); (first | rw [sec_lo (by with_reducible assumption)] at nkX | rw [sec_hi (by with_reducible assumption)] at nkX); (rename Fr h₀ L _ _ => fkX); refine' hfc _ _ _ _ ?zd ?zk _ _ _ _ _ _ _ _ _ _ _ _ _ fkX nkX ?zi; (case zi => exact rfl); (case zk => with_reducible assumption); (case zd => first | exact p_fc1 hlen hpos hrow hcA (by with_reducible assumption) (by with_reducible assumption) (by with_reducible assumption) | exact p_fc2 hlen hpos hrow hcA (by with_reducible assumption) (by with_reducible assumption) (by with_reducible assumption) (by with_reducible assumption) (by with_reducible assumption))))
end Mine
end S_Pdu_fc

section S_Pdu_hi
open PySem PySem.W PyProof.Rows PySem.Calls
namespace Mine
local macro_rules | `(tactic| k_mem) => `(tactic| ((repeat (first | exact List.Mem.head _ | refine List.Mem.tail _ ?_)); done))
local macro_rules | `(tactic| units_room) => `(tactic| ((try simp only [units_under_make, units_in1, units_deeper, Around.mark_units, cLine_is]); omega))
local macro_rules | `(tactic| k_units) => `(tactic| ((try simp only [units_under_make, units_in1, units_deeper, Around.mark_units, cLine_is]); omega))
local macro_rules | `(tactic| k_room) => `(tactic| ((try simp only [depth_under_make, depth_under_kw, depth_in1, depth_deeper, recursionLimit]); omega))
local macro_rules | `(tactic| ktr_room) => `(tactic| ((try simp only [depth_under_make, depth_under_kw, depth_in1, depth_deeper, recursionLimit]); omega))
local macro_rules | `(tactic| news_mem) => `(tactic| k_mem)

local macro_rules | `(tactic| walk_at "ite") => `(tactic| (k_here; k_openite; k_dflt (first | (refine ite_pos (by ((try simp only [decide_eq_true_eq, beq_iff_eq, bne_iff_ne]); omega)) ?_) | (refine ite_neg (by ((try simp only [decide_eq_true_eq, beq_iff_eq, bne_iff_ne]); omega)) ?_))))
local macro_rules | `(tactic| walk_at "binaryOp Mult int int") => `(tactic| (k_here; k_dflt (refine PyProof.Rows.mul_int ?_ (drop_bits (by with_reducible assumption) _ _ _))))
local macro_rules | `(tactic| k_all) => `(tactic| (k_dflt (refine' rest_ne2 ?ka ?kb; (case ka => with_reducible assumption); (case kb => omega))))
local macro_rules | `(tactic| kst_mem) => `(tactic| (intro p9 hp9; (repeat (first | exact hp9 | refine List.Mem.tail _ ?_))))
local macro_rules | `(tactic| walk_at "subscriptTail") => `(tactic| (k_here; (with_reducible show wpAny _ _ (subscriptTail _ (Expr.Slice _ _ none _) (Value.bytes _ _) (Value.ref _)) _ _ _); (with_reducible rename Fr _ _ _ _ => F'); (with_reducible rename News _ _ _ _ => N'); (refine KBc.slice_K (s := ⟨_, _, _, _, _⟩) F' N' (by with_reducible assumption) (by constructor) (by constructor) (by kba_size) ?_); intro _ _ _ _ _ kbcK; k_dflt ((try simp only [Option.elim, List.drop_zero, Nat.sub_zero] at kbcK); first | rw [clip_drop (by omega)] at kbcK | rw [clip_take (by omega)] at kbcK | fail "slice")))
local macro_rules | `(tactic| walk_at "binaryOp LShift int int") => `(tactic| (k_here; k_dflt (refine' PyProof.Rows.lshift_int_small ?ka ?kb ?kc ?_; (case ka => decide); (case kb => decide); (case kc => first | exact nb_mod _ | exact nb_byte (by with_reducible assumption) (by with_reducible assumption)))))
local macro_rules | `(tactic| walk_at "binaryOp BitAnd int int") => `(tactic| (k_here; k_dflt (refine' and_as ?ke ?_; (case ke => first | (with_reducible exact band_hi (by assumption) (by assumption)) | (with_reducible exact band_lo _)))))
local macro_rules | `(tactic| walk_at "binaryOp BitOr int int") => `(tactic| (k_here; k_dflt (refine' or_as ?ke ?_; (case ke => with_reducible (first | exact or_len (by assumption) (by assumption) | exact or_32 (by assumption) (by assumption) (by assumption) | exact or_16 (by assumption) (by assumption) (by assumption) (by assumption) | exact or_8 (by assumption) (by assumption) (by assumption) (by assumption) (by assumption))))))
local macro_rules | `(tactic| walk_at "getAttr ref") => `(tactic| (k_here; k_dflt (refine' get_clsS ?k1 ?k2 ?k3 ?k4 ?k5 ?k6 ?k7 ?k8 ?k9 ?k10 ?_; (case k1 => k_asm); (case k2 => k_asm); (case k3 => k_inst); (case k4 => k_is); (case k5 => k_is); (case k6 => k_is); (case k7 => k_is); (case k8 => k_is); (case k9 => k_handed); (case k10 => decide +kernel); k_whole)))
local macro_rules | `(tactic| walk_at "binaryOp Mod str int") => `(tactic| (k_here; k_dflt (first | (with_reducible refine' fmt_kind ?ka ?kb ?_; (case ka => exact fm_hi0 (by with_reducible assumption)); (case kb => exact fm_hi1 (by with_reducible assumption))) | (with_reducible refine' fmt_sfl ?ka ?kb ?_; (case ka => exact fm_ah0 (by decide) (by with_reducible assumption)); (case kb => exact fm_ah1 (by decide) (by with_reducible assumption))) | (with_reducible refine' fmt_ff1 ?ka ?kb ?_; (case ka => exact fm_ah0 (by decide) (by with_reducible assumption)); (case kb => exact fm_ah1 (by decide) (by with_reducible assumption))) | (with_reducible refine' fmt_ff2 ?ka ?kb ?_; (case ka => exact fm_ah0 (by decide) (by with_reducible assumption)); (case kb => exact fm_ah1 (by decide) (by with_reducible assumption))) | (with_reducible refine' fmt_fc ?ka ?kb ?_; (case ka => exact fm_ah0 (by decide) (by with_reducible assumption)); (case kb => exact fm_ah1 (by decide) (by with_reducible assumption)))); intro _ _ _))
local macro_rules | `(tactic| walk_at "binaryOp Mod str ref") => `(tactic| (k_here; k_dflt ((with_reducible refine' fmt_sf ?kN ?kb ?k0 ?k1 ?k2 ?k3 ?_); (case kN => with_reducible assumption); (case kb => k_mem); (case k0 => first | exact fm_lo0 _ | with_reducible assumption); (case k1 => first | exact fm_lo1 _ | exact fm_by1 (by with_reducible assumption)); (case k2 => first | exact fm_l1 (by with_reducible assumption) | exact fm_l2 (by with_reducible assumption)); (case k3 => exact fm_lu (by with_reducible assumption) (by decide))); intro _ _ _))
local macro_rules | `(tactic| walk_at "call type:bytes") => `(tactic| (k_here; (with_reducible show wpAny _ _ (call (Value.type "bytes") [] []) _ _ _); k_dflt (refine bytes_nil ?_)))

set_option maxRecDepth 100000 in
set_option maxHeartbeats 8000000 in
theorem pdu_hi (w : World) : PduClaim w (fun _ row => 0 < row.length ∧ 3 < (row.getD (Int.toNat 0) 0).fdiv 16) (fun mx ahead tk => [.ref mx, .int ahead tk]) := by
  intro loose mean mg mb dp un gd cn cs a ccd cl outer A₀ base h₀ L m s Q E mx dx b os ahead tk tb s0 s1 s3 s4 s5 rest hcond B F X N T hk hI h2 hb a0 a1 hd hu hraise hsf hff hcf hfc
  revert X
  k_fill
  intro X
  dsimp only at hcond ⊢
  obtain ⟨hpos, hcA⟩ := hcond
  obtain ⟨knd, nms, g1, g2, mr⟩ := cs
  dsimp only at hk
  subst hk
  have hb0 := drop_bd hb ahead.toNat 0
  have hb1 := drop_bd hb ahead.toNat 1
  have hb2 := drop_bd hb ahead.toNat 2
  have hf0 := fd16 ((os.drop ahead.toNat).getD 0 0)
  have hm0 := fm16 ((os.drop ahead.toNat).getD 0 0)
  have hq0 : 0 ≤ ((os.drop ahead.toNat).getD (Int.toNat 0) 0).fdiv 16 := fm_hi0 hb0.1
  have hq1 : 0 ≤ ((os.drop ahead.toNat).getD (Int.toNat 0) 0).fmod 16 := fm_lo0 _
  have hv4 := val4_nonneg (drop_all hb ahead.toNat)
  have hlen : (os.drop ahead.toNat).length = os.length - ahead.toNat := List.length_drop ..
  have hrow := drop_all hb ahead.toNat
  have hposI : (0 : Int) < ((os.length - ahead.toNat : Nat) : Int) := by omega
  k_steps
  all_goals (try ((with_reducible show InitBack _ _ (Except.error _) _); (rename RaisedN _ _ _ _ _ _ => rkX); (rename Heap.UpToSlots _ _ => ukX); (rename Fr h₀ L _ _ => fkX); refine hraise ?zd _ _ _ _ fkX ukX (raisedN_sub rkX ?zs); (case zs => kst_mem); (case zd => first | exact p_hi hlen hpos hrow hcA)))
end Mine
end S_Pdu_hi

section S_Pdu_fcd
open PySem PySem.W PyProof.Rows PySem.Calls
namespace Mine
local macro_rules | `(tactic| k_mem) => `(tactic| ((repeat (first | exact List.Mem.head _ | refine List.Mem.tail _ ?_)); done))
local macro_rules | `(tactic| units_room) => `(tactic| ((try simp only [units_under_make, units_in1, units_deeper, Around.mark_units, cLine_is]); omega))
local macro_rules | `(tactic| k_units) => `(tactic| ((try simp only [units_under_make, units_in1, units_deeper, Around.mark_units, cLine_is]); omega))
local macro_rules | `(tactic| k_room) => `(tactic| ((try simp only [depth_under_make, depth_under_kw, depth_in1, depth_deeper, recursionLimit]); omega))
local macro_rules | `(tactic| ktr_room) => `(tactic| ((try simp only [depth_under_make, depth_under_kw, depth_in1, depth_deeper, recursionLimit]); omega))
local macro_rules | `(tactic| news_mem) => `(tactic| k_mem)

local macro_rules | `(tactic| walk_at "ite") => `(tactic| (k_here; k_openite; k_dflt (first | (refine ite_pos (by ((try simp only [decide_eq_true_eq, beq_iff_eq, bne_iff_ne]); omega)) ?_) | (refine ite_neg (by ((try simp only [decide_eq_true_eq, beq_iff_eq, bne_iff_ne]); omega)) ?_))))
local macro_rules | `(tactic| walk_at "binaryOp Mult int int") => `(tactic| (k_here; k_dflt (refine PyProof.Rows.mul_int ?_ (drop_bits (by with_reducible assumption) _ _ _))))
local macro_rules | `(tactic| k_all) => `(tactic| (k_dflt (refine' rest_ne2 ?ka ?kb; (case ka => with_reducible assumption); (case kb => omega))))
local macro_rules | `(tactic| kst_mem) => `(tactic| (intro p9 hp9; (repeat (first | exact hp9 | refine List.Mem.tail _ ?_))))
local macro_rules | `(tactic| walk_at "subscriptTail") => `(tactic| (k_here; (with_reducible show wpAny _ _ (subscriptTail _ (Expr.Slice _ _ none _) (Value.bytes _ _) (Value.ref _)) _ _ _); (with_reducible rename Fr _ _ _ _ => F'); (with_reducible rename News _ _ _ _ => N'); (refine KBc.slice_K (s := ⟨_, _, _, _, _⟩) F' N' (by with_reducible assumption) (by constructor) (by constructor) (by kba_size) ?_); intro _ _ _ _ _ kbcK; k_dflt ((try simp only [Option.elim, List.drop_zero, Nat.sub_zero] at kbcK); first | rw [clip_drop (by omega)] at kbcK | rw [clip_take (by omega)] at kbcK | fail "slice")))
local macro_rules | `(tactic| walk_at "binaryOp LShift int int") => `(tactic| (k_here; k_dflt (refine' PyProof.Rows.lshift_int_small ?ka ?kb ?kc ?_; (case ka => decide); (case kb => decide); (case kc => first | exact nb_mod _ | exact nb_byte (by with_reducible assumption) (by with_reducible assumption)))))
local macro_rules | `(tactic| walk_at "binaryOp BitAnd int int") => `(tactic| (k_here; k_dflt (refine' and_as ?ke ?_; (case ke => first | (with_reducible exact band_hi (by assumption) (by assumption)) | (with_reducible exact band_lo _)))))
local macro_rules | `(tactic| walk_at "binaryOp BitOr int int") => `(tactic| (k_here; k_dflt (refine' or_as ?ke ?_; (case ke => with_reducible (first | exact or_len (by assumption) (by assumption) | exact or_32 (by assumption) (by assumption) (by assumption) | exact or_16 (by assumption) (by assumption) (by assumption) (by assumption) | exact or_8 (by assumption) (by assumption) (by assumption) (by assumption) (by assumption))))))
local macro_rules | `(tactic| walk_at "getAttr ref") => `(tactic| (k_here; k_dflt (refine' get_clsS ?k1 ?k2 ?k3 ?k4 ?k5 ?k6 ?k7 ?k8 ?k9 ?k10 ?_; (case k1 => k_asm); (case k2 => k_asm); (case k3 => k_inst); (case k4 => k_is); (case k5 => k_is); (case k6 => k_is); (case k7 => k_is); (case k8 => k_is); (case k9 => k_handed); (case k10 => decide +kernel); k_whole)))
local macro_rules | `(tactic| walk_at "binaryOp Mod str int") => `(tactic| (k_here; k_dflt (first | (with_reducible refine' fmt_kind ?ka ?kb ?_; (case ka => exact fm_hi0 (by with_reducible assumption)); (case kb => exact fm_hi1 (by with_reducible assumption))) | (with_reducible refine' fmt_sfl ?ka ?kb ?_; (case ka => exact fm_ah0 (by decide) (by with_reducible assumption)); (case kb => exact fm_ah1 (by decide) (by with_reducible assumption))) | (with_reducible refine' fmt_ff1 ?ka ?kb ?_; (case ka => exact fm_ah0 (by decide) (by with_reducible assumption)); (case kb => exact fm_ah1 (by decide) (by with_reducible assumption))) | (with_reducible refine' fmt_ff2 ?ka ?kb ?_; (case ka => exact fm_ah0 (by decide) (by with_reducible assumption)); (case kb => exact fm_ah1 (by decide) (by with_reducible assumption))) | (with_reducible refine' fmt_fc ?ka ?kb ?_; (case ka => exact fm_ah0 (by decide) (by with_reducible assumption)); (case kb => exact fm_ah1 (by decide) (by with_reducible assumption)))); intro _ _ _))
local macro_rules | `(tactic| walk_at "binaryOp Mod str ref") => `(tactic| (k_here; k_dflt ((with_reducible refine' fmt_sf ?kN ?kb ?k0 ?k1 ?k2 ?k3 ?_); (case kN => with_reducible assumption); (case kb => k_mem); (case k0 => first | exact fm_lo0 _ | with_reducible assumption); (case k1 => first | exact fm_lo1 _ | exact fm_by1 (by with_reducible assumption)); (case k2 => first | exact fm_l1 (by with_reducible assumption) | exact fm_l2 (by with_reducible assumption)); (case k3 => exact fm_lu (by with_reducible assumption) (by decide))); intro _ _ _))
local macro_rules | `(tactic| walk_at "call type:bytes") => `(tactic| (k_here; (with_reducible show wpAny _ _ (call (Value.type "bytes") [] []) _ _ _); k_dflt (refine bytes_nil ?_)))

set_option maxRecDepth 100000 in
set_option maxHeartbeats 8000000 in
theorem pdu_fcd (w : World) : PduClaim w (fun ahead row => ahead = 0 ∧ 0 < row.length ∧ (row.getD (Int.toNat 0) 0).fdiv 16 = 3) (fun mx _ _ => [.ref mx]) := by
  intro loose mean mg mb dp un gd cn cs a ccd cl outer A₀ base h₀ L m s Q E mx dx b os ahead tk tb s0 s1 s3 s4 s5 rest hcond B F X N T hk hI h2 hb a0 a1 hd hu hraise hsf hff hcf hfc
  revert X
  k_fill
  intro X
  dsimp only at hcond ⊢
  obtain ⟨rfl, hpos, hcA⟩ := hcond
  obtain ⟨knd, nms, g1, g2, mr⟩ := cs
  dsimp only at hk
  subst hk
  have hb0 := drop_bd hb (Int.toNat 0) 0
  have hb1 := drop_bd hb (Int.toNat 0) 1
  have hb2 := drop_bd hb (Int.toNat 0) 2
  have hf0 := fd16 ((os.drop (Int.toNat 0)).getD 0 0)
  have hm0 := fm16 ((os.drop (Int.toNat 0)).getD 0 0)
  have hq0 : 0 ≤ ((os.drop (Int.toNat 0)).getD (Int.toNat 0) 0).fdiv 16 := fm_hi0 hb0.1
  have hq1 : 0 ≤ ((os.drop (Int.toNat 0)).getD (Int.toNat 0) 0).fmod 16 := fm_lo0 _
  have hv4 := val4_nonneg (drop_all hb (Int.toNat 0))
  have hlen : (os.drop (Int.toNat 0)).length = os.length - (Int.toNat 0) := List.length_drop ..
  have hrow := drop_all hb (Int.toNat 0)
  have hposI : (0 : Int) < ((os.length - (Int.toNat 0) : Nat) : Int) := by omega
  k_steps
  all_goals (try ((with_reducible show InitBack _ _ (Except.error _) _); (rename RaisedN _ _ _ _ _ _ => rkX); (rename Heap.UpToSlots _ _ => ukX); (rename Fr h₀ L _ _ => fkX); refine hraise ?zd _ _ _ _ fkX ukX (raisedN_sub rkX ?zs); (case zs => kst_mem); (case zd => first | exact p_fc_n1 hlen hpos hrow hcA (by with_reducible assumption) | exact p_fc_n2 hlen hpos hrow hcA (by with_reducible assumption) (by with_reducible assumption) | exact p_fc_n3 hlen hpos hrow hcA (by with_reducible assumption) (by with_reducible assumption) (by with_reducible assumption) (by with_reducible assumption) (by with_reducible assumption) | exact p_fc_n4 hlen hpos hrow hcA (by with_reducible assumption) (by with_reducible assumption) (by with_reducible assumption) (by with_reducible assumption))))
  all_goals (try ((rename News h₀ L _ _ => nkX); (first | rw [sec_lo (by with_reducible assumption)] at nkX | rw [sec_hi (by with_reducible assumption)] at nkX); (rename Fr h₀ L _ _ => fkX); refine' hfc _ _ _ _ ?zd ?zk _ _ _ _ _ _ _ _ _ _ _ _ _ fkX nkX ?zi; (case zi => exact rfl); (case zk => with_reducible assumption); (case zd => first | exact p_fc1 hlen hpos hrow hcA (by with_reducible assumption) (by with_reducible assumption) (by with_reducible assumption) | exact p_fc2 hlen hpos hrow hcA (by with_reducible assumption) (by with_reducible assumption) (by with_reducible assumption) (by with_reducible assumption) (by with_reducible assumption))))
end Mine
end S_Pdu_fcd

section S_Pdu_all
open PySem PySem.W PyProof.Rows PySem.Calls
namespace Mine
theorem pdu_ok (w : World) : PduClaim w (fun _ _ => True) (fun mx ahead tk => [.ref mx, .int ahead tk]) := by
  intro loose mean mg mb dp un gd cn cs a ccd cl outer A₀ base h₀ L m s Q E mx dx b os ahead tk tb s0 s1 s3 s4 s5 rest hcond B F X N T hk hI h2 hb a0 a1 hd hu hraise hsf hff hcf hfc
  have hrow := drop_all hb ahead.toNat
  have hb0 : 0 ≤ (os.drop ahead.toNat).getD (Int.toNat 0) 0 ∧ (os.drop ahead.toNat).getD (Int.toNat 0) 0 < 256 := drop_bd hb ahead.toNat 0
  have hf := fd16 ((os.drop ahead.toNat).getD (Int.toNat 0) 0)
  by_cases hz : (os.drop ahead.toNat).length = 0
  · have hX := hz
    exact pdu_nil w dp un gd cn cs a ccd cl outer A₀ base h₀ L m s Q E mx dx b os ahead tk tb s0 s1 s3 s4 s5 rest hX B F X N T hk hI h2 hb a0 a1 hd hu hraise hsf hff hcf hfc
  have hpos : 0 < (os.drop ahead.toNat).length := Nat.pos_of_ne_zero hz
  by_cases c0 : ((os.drop ahead.toNat).getD (Int.toNat 0) 0).fdiv 16 = 0
  · by_cases c1 : ((os.drop ahead.toNat).getD (Int.toNat 0) 0).fmod 16 = 0
    · have hX := And.intro hpos (And.intro c0 c1)
      exact pdu_sfl w dp un gd cn cs a ccd cl outer A₀ base h₀ L m s Q E mx dx b os ahead tk tb s0 s1 s3 s4 s5 rest hX B F X N T hk hI h2 hb a0 a1 hd hu hraise hsf hff hcf hfc
    · have hX := And.intro hpos (And.intro c0 c1)
      exact pdu_sfs w dp un gd cn cs a ccd cl outer A₀ base h₀ L m s Q E mx dx b os ahead tk tb s0 s1 s3 s4 s5 rest hX B F X N T hk hI h2 hb a0 a1 hd hu hraise hsf hff hcf hfc
  by_cases c1 : ((os.drop ahead.toNat).getD (Int.toNat 0) 0).fdiv 16 = 1
  · have hX := And.intro hpos c1
    exact pdu_ff w dp un gd cn cs a ccd cl outer A₀ base h₀ L m s Q E mx dx b os ahead tk tb s0 s1 s3 s4 s5 rest hX B F X N T hk hI h2 hb a0 a1 hd hu hraise hsf hff hcf hfc
  by_cases c2 : ((os.drop ahead.toNat).getD (Int.toNat 0) 0).fdiv 16 = 2
  · have hX := And.intro hpos c2
    exact pdu_cf w dp un gd cn cs a ccd cl outer A₀ base h₀ L m s Q E mx dx b os ahead tk tb s0 s1 s3 s4 s5 rest hX B F X N T hk hI h2 hb a0 a1 hd hu hraise hsf hff hcf hfc
  by_cases c3 : ((os.drop ahead.toNat).getD (Int.toNat 0) 0).fdiv 16 = 3
  · have hX := And.intro hpos c3
    exact pdu_fc w dp un gd cn cs a ccd cl outer A₀ base h₀ L m s Q E mx dx b os ahead tk tb s0 s1 s3 s4 s5 rest hX B F X N T hk hI h2 hb a0 a1 hd hu hraise hsf hff hcf hfc
  have hX := And.intro hpos (show 3 < ((os.drop ahead.toNat).getD (Int.toNat 0) 0).fdiv 16 by rw [hf] at *; omega)
  exact pdu_hi w dp un gd cn cs a ccd cl outer A₀ base h₀ L m s Q E mx dx b os ahead tk tb s0 s1 s3 s4 s5 rest hX B F X N T hk hI h2 hb a0 a1 hd hu hraise hsf hff hcf hfc
end Mine
end S_Pdu_all

section S_Loop
open PySem PySem.W PyProof.Rows PySem.Calls
namespace Mine
def TurnEnd (h₀ : Heap) (L : Addr) (m₀ : Str → Option Value) (x : Str) (stored : List Str) (at_ cellA : Addr) (nn : Nat) (rest : List (Addr × Obj)) (k : Int) (s : Shared) (Q : Flow → Shared → Prop) (f : Flow) (s' : Shared) : Prop :=
  match f with
  | .ret v => Q (.ret v) s'
  | .brk => Q .next s'
  | _ => ∃ h' tk' m' k' t cell v, s' = { s with heap := h', toks := tk' } ∧ Fr h₀ L h' m' ∧ News h₀ L h' ((at_, listOf [Value.int k' t].toArray nn) :: (cellA, cell) :: rest) ∧ cell.data = .cell v ∧ (∀ z, z ≠ x → stored.contains z = false → m' z = m₀ z) ∧ k ≤ k' ∧ k' ≤ k + 30
theorem turn_end {h₀ h' : Heap} {L : Addr} {m₀ m' : Str → Option Value} {x : Str} {stored : List Str} {at_ cellA : Addr} {nn : Nat} {rest news : List (Addr × Obj)} {k k' : Int} {s : Shared} {Q : Flow → Shared → Prop} {t : Tok} {cell : Obj} {v : Option Value} {tk' : Nat}
    (F : Fr h₀ L h' m') (N : News h₀ L h' news) (hN : ∀ p ∈ (at_, listOf [Value.int k' t].toArray nn) :: (cellA, cell) :: rest, p ∈ news) (hc : cell.data = .cell v) (hm : ∀ z, z ≠ x → stored.contains z = false → m' z = m₀ z) (h1 : k ≤ k') (h2 : k' ≤ k + 30) :
    TurnEnd h₀ L m₀ x stored at_ cellA nn rest k s Q .next { s with heap := h', toks := tk' } ∧ TurnEnd h₀ L m₀ x stored at_ cellA nn rest k s Q .cont { s with heap := h', toks := tk' } :=
  ⟨⟨h', tk', m', k', t, cell, v, rfl, F, fun p hp => N p (hN p hp), hc, hm, h1, h2⟩, ⟨h', tk', m', k', t, cell, v, rfl, F, fun p hp => N p (hN p hp), hc, hm, h1, h2⟩⟩
theorem ifB {α : Sort u} {c d : Bool} (a b : α) (h : c = d) : (if c = true then a else b) = if d = true then a else b := by rw [h]
theorem turns {prog : Program} {w : World} {A : Around} {E : Value → Shared → Prop} {s : Shared} {env : Env} {h₀ : Heap} {x : Str} {body : List Stmt} {Q : Flow → Shared → Prop} {r : Addr} {R : Int} {t₀ u₀ v₀ : Tok} {m₀ : Str → Option Value}
    (stored : List Str) {L : Addr} {at_ cellA : Addr} {cell₀ : Obj} {k₀ : Int} {tk₀ : Tok} {nn : Nat} {rest big : List (Addr × Obj)} {cv : Option Value}
    (hL : env.locals = L) (hh : A.handled = none) (hr : IsRange s.heap r 0 (1 + R) 1 t₀ u₀ v₀) (R0 : 0 ≤ R) (R1 : R < 4) (F : Fr h₀ L s.heap m₀) (N : News h₀ L s.heap big)
    (hs : ∀ p ∈ (at_, listOf [Value.int k₀ tk₀].toArray nn) :: (cellA, cell₀) :: rest, p ∈ big) (hc : cell₀.data = .cell cv) (k0 : 0 ≤ k₀) (k1 : k₀ ≤ 1) (hra : ∀ p ∈ rest, p.1 ≠ at_) (hrc : ∀ p ∈ rest, p.1 ≠ cellA)
    (turn : ∀ (i k : Int) (t t' : Tok) (cell : Obj) (v : Option Value) (u : Str → Option Value) h tk rest', (∀ p ∈ rest, p ∈ rest') → (∀ p ∈ rest', p.1 ≠ at_) → (∀ p ∈ rest', p.1 ≠ cellA) → cell.data = .cell v → 0 ≤ k → k ≤ 100 →
      Fr h₀ L h (fun y => if y = x then some (.int i t) else if stored.contains y then u y else m₀ y) → News h₀ L h ((at_, listOf [Value.int k t'].toArray nn) :: (cellA, cell) :: rest') →
      wpAny (model prog w) A (execs body env) (TurnEnd h₀ L m₀ x stored at_ cellA nn rest' k { s with heap := h, toks := tk } Q) E { s with heap := h, toks := tk })
    (done : ∀ (k : Int) (t' : Tok) (cell : Obj) (v : Option Value) (u : Str → Option Value) h tk, 0 ≤ k → k ≤ 130 → cell.data = .cell v →
      Fr h₀ L h (fun y => if y = x then u y else if stored.contains y then u y else m₀ y) → News h₀ L h ((at_, listOf [Value.int k t'].toArray nn) :: (cellA, cell) :: rest) → Q .next { s with heap := h, toks := tk }) :
    wpAny (model prog w) A (pyIter (.ref r)) (fun it s₂ => LoopAtV prog w A h₀ env x body Q E it s₂) E s := by
  subst hL
  have hn : Builtin.Range.rangeSize 0 (1 + R) 1 = (((1 + R) - 0).toNat : Int) := rangeSize_nat _ _
  refine kst_range (σ := Obj × Int × Tok) (n := ((1 + R) - 0).toNat) (fun c => (at_, listOf [Value.int c.2.1 c.2.2].toArray nn) :: (cellA, c.1) :: rest) (fun _ => []) (fun c => ∃ v, c.1.data = .cell v) stored
    (fun pre c => 0 ≤ c.2.1 ∧ c.2.1 ≤ 1 + 30 * (pre.length : Int)) (cell₀, k₀, tk₀) hh hr (small_one (by omega) (by omega) (by omega) (by omega)) hn F (fun p hp => N p (hs p hp)) ⟨cv, hc⟩ (fun _ h => nomatch h) ⟨k0, by simp only [List.length_nil]; omega⟩ ?_ ?_
  · rintro ⟨cell, k, t'⟩ pre i t u h tk own hi hlt hoff ⟨v, hv⟩ ⟨p0, p1⟩ F₁ N₁
    dsimp only at *
    have o1 : ∀ p ∈ own, p.1 ≠ at_ := fun p hp => hoff p hp _ (.head _)
    have o2 : ∀ p ∈ own, p.1 ≠ cellA := fun p hp => hoff p hp _ (.tail _ (.head _))
    refine wpAny_mono (turn i k t t' cell v u h tk (rest ++ own) (fun p hp => List.mem_append_left _ hp) ?_ ?_ hv p0 (by omega) F₁ N₁) ?_ (fun _ _ x => x)
    · intro p hp
      rcases List.mem_append.mp hp with hp | hp
      · exact hra p hp
      · exact o1 p hp
    · intro p hp
      rcases List.mem_append.mp hp with hp | hp
      · exact hrc p hp
      · exact o2 p hp
    · have up : ∀ s', (∃ h' tk' m' k' t cell v, s' = { s with heap := h', toks := tk' } ∧ Fr h₀ env.locals h' m' ∧ News h₀ env.locals h' ((at_, listOf [Value.int k' t].toArray nn) :: (cellA, cell) :: (rest ++ own)) ∧ cell.data = .cell v ∧ (∀ z, z ≠ x → stored.contains z = false → m' z = m₀ z) ∧ k ≤ k' ∧ k' ≤ k + 30) →
          InvEndN h₀ env.locals (KstS (σ := Obj × Int × Tok) (fun c => (at_, listOf [Value.int c.2.1 c.2.2].toArray nn) :: (cellA, c.1) :: rest) (fun _ => []) (fun c => ∃ v, c.1.data = .cell v) x stored m₀ (fun pre c => 0 ≤ c.2.1 ∧ c.2.1 ≤ 1 + 30 * (pre.length : Int)) (pre ++ [i])) own (((at_, listOf [Value.int k₀ tk₀].toArray nn) :: (cellA, cell₀) :: rest).map (·.1)) { s with heap := h, toks := tk } s' := by
        rintro s' ⟨h', tk', m', k', t9, cell', v', rfl, F', N', hv', hm', b1, b2⟩
        refine kst_end (s₁ := { s with heap := h, toks := tk }) (Led := fun c : Obj × Int × Tok => (at_, listOf [Value.int c.2.1 c.2.2].toArray nn) :: (cellA, c.1) :: rest) (cell', k', t9) F' N' ?_ ?_ rfl ⟨v', hv'⟩ (fun _ h => nomatch h) ?_ ?_
        · intro p hp
          rcases List.mem_cons.mp hp with rfl | hp
          · exact .head _
          rcases List.mem_cons.mp hp with rfl | hp
          · exact .tail _ (.head _)
          · exact .tail _ (.tail _ (List.mem_append_left _ hp))
        · intro p hp
          exact .tail _ (.tail _ (List.mem_append_right _ hp))
        · intro z hz _ hs'
          exact hm' z hz hs'
        · refine ⟨Int.le_trans p0 b1, ?_⟩
          show k' ≤ _
          rw [List.length_append, List.length_singleton]
          omega
      intro f s' hf
      cases f with
      | ret v => exact hf
      | brk => exact hf
      | next => exact up s' hf
      | cont => exact up s' hf
  · rintro ⟨cell, k, t'⟩ u h tk ⟨v, hv⟩ ⟨p0, p1⟩ F₁ N₁
    dsimp only at *
    rw [rangeKs_length] at p1
    exact done k t' cell v u h tk p0 (by omega) hv F₁ N₁
end Mine
end S_Loop

section S_Oct
open PySem PySem.W PyProof.Rows PySem.Calls
namespace Mine
def Octs (vs : List Value) (n : Nat) : Prop := ∃ os, IntsAre vs os ∧ os.length = n ∧ ∀ x ∈ os, 0 ≤ x ∧ x < 256
theorem octs_mem {l : List Int} {x : Int} {r : List Int} (h : 0 ≤ x ∧ x < 256) (hr : ∀ y ∈ r, 0 ≤ y ∧ y < 256) : ∀ y ∈ x :: r, 0 ≤ y ∧ y < 256 := fun y hy => by
  rcases List.mem_cons.mp hy with rfl | hy
  · exact h
  · exact hr y hy
theorem octs_nil : Octs [] 0 := ⟨[], .nil, rfl, fun _ h => nomatch h⟩
theorem octs_cons {x : Int} {t : Tok} {vs : List Value} {n : Nat} (h0 : 0 ≤ x) (h1 : x < 256) (h : Octs vs n) : Octs (.int x t :: vs) (n + 1) := by
  obtain ⟨os, a, b, c⟩ := h
  exact ⟨x :: os, .cons _ _ a, by rw [List.length_cons, b], octs_mem (l := os) ⟨h0, h1⟩ c⟩
theorem octs3 {x y z : Int} {t u v : Tok} (a : 0 ≤ x) (b : x < 256) (c : 0 ≤ y) (d : y < 256) (e : 0 ≤ z) (f : z < 256) : Octs [.int x t, .int y u, .int z v] 3 := octs_cons a b (octs_cons c d (octs_cons e f octs_nil))
theorem octs6 {x y : Int} {t u v w o p : Tok} (a : 0 ≤ x) (b : x < 256) (c : 0 ≤ y) (d : y < 256) : Octs [.int x t, .int 0 u, .int 0 v, .int 0 w, .int 0 o, .int y p] 6 := octs_cons a b (octs_cons (by decide) (by decide) (octs_cons (by decide) (by decide) (octs_cons (by decide) (by decide) (octs_cons (by decide) (by decide) (octs_cons c d octs_nil)))))
theorem octs_comp {ys : List Value} {z : Int} {n : Nat} (h : CarriedAll ys (List.map (fun a => PyData.int ((a * 41 + z).fmod 256)) (List.filter (fun _ => true) (rangeInts 0 1 n)))) : Octs ys n := by
  have e : List.filter (fun _ => true) (rangeInts 0 1 n) = rangeInts 0 1 n := List.filter_eq_self.mpr fun _ _ => rfl
  rw [e] at h
  refine ⟨(rangeInts 0 1 n).map fun a => (a * 41 + z).fmod 256, CarriedAll.intsOf h, by rw [List.length_map, rangeInts_length], ?_⟩
  intro x hx
  obtain ⟨a, _, rfl⟩ := List.mem_map.mp hx
  have e2 : (a * 41 + z).fmod 256 = (a * 41 + z) % 256 := Int.fmod_eq_emod_of_nonneg _ (by decide)
  rw [e2]
  omega
theorem octs_rep {t : Tok} : ∀ n : Nat, Octs (List.replicate n [Value.int 170 t]).flatten n
  | 0 => octs_nil
  | n + 1 => by
    rw [List.replicate_succ, List.flatten_cons]
    exact octs_cons (by decide) (by decide) (octs_rep n)
theorem octs_append {vs ws : List Value} {n k : Nat} (a : Octs vs n) (b : Octs ws k) : Octs (vs ++ ws) (n + k) := by
  obtain ⟨os, a1, a2, a3⟩ := a
  obtain ⟨ps, b1, b2, b3⟩ := b
  refine ⟨os ++ ps, a1.append b1, by rw [List.length_append, a2, b2], fun x hx => ?_⟩
  rcases List.mem_append.mp hx with hx | hx
  · exact a3 x hx
  · exact b3 x hx
section
variable {prog : Program} {w : World} {A : Around} {E : Value → Shared → Prop} {s : Shared} {h₀ : Heap} {L : Addr} {m : Str → Option Value} {news : List (Addr × Obj)} {Q : Value → Shared → Prop} {a b l : Addr} {vs ws : List Value} {n k : Nat} {value slice : PySem.Expr} {x y : Int} {u : Tok}
theorem oct_add (F : Fr h₀ L s.heap m) (N : News h₀ L s.heap news) (ha : s.heap.IsList a vs.toArray) (hb : s.heap.IsList b ws.toArray) (ia : Octs vs n) (ib : Octs ws k) (hz : n + k ≤ 300)
    (h : ∀ D us h', Fr h₀ L h' m → News h₀ L h' ((D, listOf (List.toArray us) 0) :: news) → (∀ p ∈ news, p.1 < D) → Octs us (n + k) → Q (.ref D) { s with heap := h' }) :
    wpAny (model prog w) A (binaryOp .Add (.ref a) (.ref b)) Q E s := by
  obtain ⟨os, a1, a2, a3⟩ := ia
  obtain ⟨ps, b1, b2, b3⟩ := ib
  refine kmk_add_ints F N ha hb a1 b1 (fun D us h' F' N' l1 hI => h D us h' F' N' l1 ⟨os ++ ps, hI, by rw [List.length_append, a2, b2], ?_⟩) ?_
  · intro x hx
    rcases List.mem_append.mp hx with hx | hx
    · exact a3 x hx
    · exact b3 x hx
  · rw [a2, b2, sizeLine_eq]
    omega
theorem oct_mul {t : Tok} (F : Fr h₀ L s.heap m) (N : News h₀ L s.heap news) (hl : s.heap.IsList l [Value.int 170 t].toArray) (h0 : 0 ≤ x) (h1 : x < 2)
    (h : ∀ D us h', Fr h₀ L h' m → News h₀ L h' ((D, listOf (List.toArray us) 0) :: news) → (∀ p ∈ news, p.1 < D) → Octs us x.toNat → Q (.ref D) { s with heap := h' }) :
    wpAny (model prog w) A (binaryOp .Mult (.ref l) (.int x u)) Q E s :=
  KMa.mul F N hl (by omega) (by omega) (by simp only [List.length_cons, List.length_nil]; omega) rfl fun D h' F' N' l1 => h D _ h' F' N' l1 (octs_rep _)
theorem oct_from (F : Fr h₀ L s.heap m) (N : News h₀ L s.heap news) (hl : s.heap.IsList l vs.toArray) (i : Octs vs n) (hn : n ≤ 300) (h0 : 0 ≤ x) {vl : Value} (pl : IsPart vl (some x)) {vu : Value} (pu : IsPart vu none)
    (h : ∀ D us h', Fr h₀ L h' m → News h₀ L h' ((D, listOf (List.toArray us) 0) :: news) → (∀ p ∈ news, p.1 < D) → Octs us (n - x.toNat) → Q (.ref D) { s with heap := h' })
    (hs : subscripted slice false (.ref l) (.ref s.heap.objs.size) = operate [.ref s.heap.objs.size, .ref l] (getItem (.ref l) (.ref s.heap.objs.size))) (ht : ∀ r, letTemporaryGo value (.ref l) r = pure ()) :
    wpAny (model prog w) A (subscriptTail value slice (.ref l) (.ref s.heap.objs.size)) Q E { s with heap := s.heap.push { cls := .type "slice", data := .fields #[vl, vu, .none] } } := by
  obtain ⟨os, a1, a2, a3⟩ := i
  refine kmk_slice_ints (c := n - x.toNat) F N hl pl pu a1 (kmk_from a1 h0) (by rw [List.length_drop, a2]) (fun D us h' F' N' l1 hI hc _ => h D us h' F' N' l1 ⟨_, hI, hc, fun y hy => a3 y (List.mem_of_mem_drop hy)⟩) hs ht ?_
  rw [List.size_toArray, a1.length, a2, sizeLine_eq]
  omega
theorem oct_upto (F : Fr h₀ L s.heap m) (N : News h₀ L s.heap news) (hl : s.heap.IsList l vs.toArray) (i : Octs vs n) (hn : n ≤ 300) (h0 : 0 ≤ x) (h1 : x.toNat ≤ n) {vl : Value} (pl : IsPart vl none) {vu : Value} (pu : IsPart vu (some x))
    (h : ∀ D us h', Fr h₀ L h' m → News h₀ L h' ((D, listOf (List.toArray us) 0) :: news) → (∀ p ∈ news, p.1 < D) → Octs us x.toNat → Q (.ref D) { s with heap := h' })
    (hs : subscripted slice false (.ref l) (.ref s.heap.objs.size) = operate [.ref s.heap.objs.size, .ref l] (getItem (.ref l) (.ref s.heap.objs.size))) (ht : ∀ r, letTemporaryGo value (.ref l) r = pure ()) :
    wpAny (model prog w) A (subscriptTail value slice (.ref l) (.ref s.heap.objs.size)) Q E { s with heap := s.heap.push { cls := .type "slice", data := .fields #[vl, vu, .none] } } := by
  obtain ⟨os, a1, a2, a3⟩ := i
  refine kmk_slice_ints (c := x.toNat) F N hl pl pu a1 (kmk_upto a1 h0) (by rw [List.length_take, a2]; omega) (fun D us h' F' N' l1 hI hc _ => h D us h' F' N' l1 ⟨_, hI, hc, fun y hy => a3 y (List.mem_of_mem_take hy)⟩) hs ht ?_
  rw [List.size_toArray, a1.length, a2, sizeLine_eq]
  omega
end
def BodyR (h₀ : Heap) (L : Addr) (m : Str → Option Value) (at_ cellA : Addr) (cell : Obj) (nn : Nat) (rest : List (Addr × Obj)) (k : Int) (s : Shared) (f : Flow) (s' : Shared) : Prop :=
  f = .next ∧ ∃ B vs h' tk m' k' t', s' = { s with heap := h', toks := tk } ∧ Fr h₀ L h' m' ∧ m' (Str.ofString "body") = some (.ref B) ∧ (∀ z, z ≠ Str.ofString "body" → m' z = m z) ∧ News h₀ L h' ((B, listOf (List.toArray vs) 0) :: (at_, listOf [Value.int k' t'].toArray nn) :: (cellA, cell) :: rest) ∧ Octs vs 67 ∧ k ≤ k' ∧ k' ≤ k + 2 ∧ (@LT.lt Nat _ at_ B ∧ @LT.lt Nat _ cellA B ∧ AllLt B rest)
theorem if_join {prog : Program} {w : World} {A : Around} {t : Sem Flow} {E : Value → Shared → Prop} {s : Shared} {Q : Flow → Shared → Prop} {h₀ : Heap} {L : Addr} {m : Str → Option Value} {at_ cellA : Addr} {cell : Obj} {nn : Nat} {rest news : List (Addr × Obj)} {k : Int} {t₀ : Tok}
    (_F : Fr h₀ L s.heap m) (_N : News h₀ L s.heap news) (_hs : ∀ p ∈ (at_, listOf [Value.int k t₀].toArray nn) :: (cellA, cell) :: rest, p ∈ news) (h1 : wpAny (model prog w) A t (BodyR h₀ L m at_ cellA cell nn rest k s) E s)
    (h2 : ∀ B vs h' tk k' t', Fr h₀ L h' (fun y => if y = Str.ofString "body" then some (.ref B) else m y) → News h₀ L h' ((B, listOf (List.toArray vs) 0) :: (at_, listOf [Value.int k' t'].toArray nn) :: (cellA, cell) :: rest) → Octs vs 67 → k ≤ k' → k' ≤ k + 2 → (@LT.lt Nat _ at_ B ∧ @LT.lt Nat _ cellA B ∧ AllLt B rest) → Q .next { s with heap := h', toks := tk }) :
    wpAny (model prog w) A t Q E s := by
  refine wpAny_mono h1 ?_ (fun _ _ h => h)
  rintro f s' ⟨rfl, B, vs, h', tk, m', k', t', rfl, F', e1, e2, N', o, b1, b2, lt⟩
  have em : m' = fun y => if y = Str.ofString "body" then some (.ref B) else m y := by
    funext y
    by_cases h : y = Str.ofString "body"
    · rw [if_pos h, h, e1]
    · rw [if_neg h, e2 y h]
  rw [em] at F'
  exact h2 B vs h' tk k' t' F' N' o b1 b2 lt
theorem body_end {h₀ h' : Heap} {L : Addr} {m m' : Str → Option Value} {at_ cellA B : Addr} {cell : Obj} {nn n tk : Nat} {rest news : List (Addr × Obj)} {k k' : Int} {s : Shared} {vs : List Value} {t' : Tok}
    (F : Fr h₀ L h' m') (e1 : m' (Str.ofString "body") = some (.ref B)) (e2 : ∀ z, z ≠ Str.ofString "body" → m' z = m z) (N : News h₀ L h' news) (hN : ∀ p ∈ (B, listOf (List.toArray vs) 0) :: (at_, listOf [Value.int k' t'].toArray nn) :: (cellA, cell) :: rest, p ∈ news) (o : Octs vs n) (hn : n = 67) (b1 : k ≤ k') (b2 : k' ≤ k + 2)
    (l1 : @LT.lt Nat _ at_ B) (l2 : @LT.lt Nat _ cellA B) (l3 : AllLt B rest) : BodyR h₀ L m at_ cellA cell nn rest k s .next { s with heap := h', toks := tk } := by
  subst hn
  exact ⟨rfl, B, vs, h', tk, m', k', t', rfl, F, e1, e2, fun p hp => N p (hN p hp), o, b1, b2, l1, l2, l3⟩
end Mine
end S_Oct

section S_Caught
open PySem PySem.W PyProof.Rows PySem.Calls
namespace Mine
theorem ldC_builtin_at {M : Model} {A : Around} {E : Value → Shared → Prop} {s : Shared} {name : Str} {scope : Scope} {L a : Addr} {cd : Value} {h₀ : Heap} {m mg mb : Str → Option Value} {x : Str} {pos : Pos} {v : Value} {Q : Value → Shared → Prop} (F : Fr h₀ L s.heap m) (hg : h₀.Ns mainGlobals mg) (hmiss : mg x = none) (hb : h₀.Ns builtinsNs mb) (hv : mb x = some v) (h : Q v s)
    (hk : scope.kind = .function := by rfl) (hx : (envOfC name scope L a cd).kindOf x = some .globalImplicit := by rfl) (hd : (x == ("__debug__" : Str)) = false := by decide) :
    wpAny M A (eval (.Name x pos) (envOfC name scope L a cd)) Q E s :=
  Calls.Name_function_global hk hx (Calls.loadGlobal_builtin (env := envOfC name scope L a cd) (hg.keeps F.keep) hmiss (hb.keeps F.keep) hv h) hd
section
variable {prog : Program} {w : World} {A₀ : Around} {E : Value → Shared → Prop} {s' : Shared} {h₀ h : Heap} {outer : List Env} {L a e : Addr} {m : Str → Option Value} {name : Str} {scope : Scope} {cd : Value}
  {b₀ : Stmt} {suite : List Stmt} {pos np : Pos} {rest : List ExceptHandler} {Q : Flow → Shared → Prop} {news : List (Addr × Obj)}
  {p : Program} {loose : List Str} {mg mb : Str → Option Value}
theorem caught_C (K : Below A₀ h₀ outer h₀) (F : Fr h₀ L h m) (hsm : h.UpToSlots s'.heap) (R : RaisedN h₀ (envOfC name scope L a cd :: outer) e (.type "ValueError") news s'.heap)
    (T : TopRead p loose mg mb h₀)
    (k : ∀ h', Fr h₀ L h' m → News h₀ L h' news →
      wpAny (model prog w) ((A₀.deeper (envOfC name scope L a cd)).mark (some (.ref e))) (execs (b₀ :: suite) (envOfC name scope L a cd)) Q (fun _ _ => False) { s' with heap := h' })
    (hm : mg (Str.ofString "ValueError") = none)
    (hk : scope.kind = .function := by rfl) (hx : (envOfC name scope L a cd).kindOf (Str.ofString "ValueError") = some .globalImplicit := by rfl) :
    wpAny (model prog w) (A₀.deeper (envOfC name scope L a cd)) (noteFrame (.ref e) (envOfC name scope L a cd))
      (fun _ s₂ => wpAny (model prog w) (A₀.deeper (envOfC name scope L a cd)) (setFlight (.ref e) none) (fun _ s₃ =>
        wpAny (model prog w) (A₀.deeper (envOfC name scope L a cd)) (handleBy (.ref e) (envOfC name scope L a cd) (.ExceptHandler (some (.Name (Str.ofString "ValueError") np)) none (b₀ :: suite) pos :: rest)) Q E s₃) E s₂) E s' := by
  obtain ⟨B, a0, hB, hl, hfl⟩ := R
  have hL : B.get? L = none := by
    obtain ⟨_, ⟨L', _, hf, hn', _⟩, _⟩ := hfl.2.2.1
    obtain rfl : L = L' := Option.some.inj hf
    exact hn'
  refine wpAny_looks_onW (Around.frames_deeper K.stack) rfl hfl fun h₄ hheld₄ hsm₄ => ?_
  refine wpAny_landsW hheld₄ fun h₅ hheld hsm₅' => ?_
  have hsm₅ := hsm₄.trans hsm₅'
  have hheld' := flyingW_base hB hheld
  have F₅ := F.of_stays hheld'.1 (hsm.trans hsm₅)
  obtain ⟨ob, hob, hobc⟩ := hheld'.there
  refine wpAny_handleBy_builtin (X := "ValueError") (T := "ValueError") (b := true) PySem.F.isExc_ValueError PySem.F.notTuple_ValueError (by rw [isSubtype_type]; kernel_rfl) (ldC_builtin_at F₅ T.g hm T.b ((T.builtins _ (by decide +kernel)).trans PyProof.Rows.Boot.«ValueError») ⟨rfl, ⟨ob, hob, hobc⟩, ?_⟩ hk hx (by decide))
  refine lands_againW hheld fun h₆ hfl₆ hsm₆ => ?_
  have F₆ := F.of_stays (flyingW_base hB hfl₆).1 ((hsm.trans hsm₅).trans hsm₆)
  exact wpAny_mono (k h₆ F₆ fun q hq => ⟨hfl₆.1 _ _ (hl q hq).1, (fun z => by have := (hl q hq).1; rw [z, hL] at this; cases this), (hl q hq).2⟩) (fun _ _ h => h) (fun _ _ h => h.elim)
end
end Mine
end S_Caught

section S_Can
open PySem PySem.W PyProof.Rows PySem.Calls
namespace Mine
local macro_rules | `(tactic| units_room) => `(tactic| ((try simp only [units_under_make, units_in1, units_deeper, Around.mark_units, cLine_is]); omega))
local macro_rules | `(tactic| k_units) => `(tactic| ((try simp only [units_under_make, units_in1, units_deeper, Around.mark_units, cLine_is]); omega))
local macro_rules | `(tactic| k_room) => `(tactic| ((try simp only [depth_under_make, depth_under_kw, depth_in1, depth_deeper, recursionLimit]); omega))
local macro_rules | `(tactic| ktr_room) => `(tactic| ((try simp only [depth_under_make, depth_under_kw, depth_in1, depth_deeper, recursionLimit]); omega))
local macro_rules | `(tactic| k_mem) => `(tactic| ((repeat (first | exact List.Mem.head _ | refine List.Mem.tail _ ?_)); done))
local macro_rules | `(tactic| news_mem) => `(tactic| k_mem)
theorem can_ne {L' d : Nat} {rest : List (Addr × Obj)} (h : AllLt L' rest) (hd : @LE.le Nat _ L' d) : ∀ p ∈ rest, p.1 ≠ d := fun p hp => Nat.ne_of_lt (Nat.lt_of_lt_of_le (kst_ltOf h p hp) hd)
local macro_rules | `(tactic| k_all) => `(tactic| (k_dflt (refine' can_ne (allLt_of ?ka) ?kb; (case ka => with_reducible assumption); (case kb => omega))))
set_option maxRecDepth 100000 in
set_option maxHeartbeats 8000000 in
theorem can_ok {w : World} {loose : List Str} {mean : ExcName → Option Value} {mg mb : Str → Option Value}
    (dp un : Nat) (gd : Option (List Code)) (cn : Str) (cs : Scope) (a : Addr) (ccd : Value) (cl : List (Str × Addr)) (outer : List Env) (A₀ : Around) (base h₀ : Heap) (L : Addr) (m : Str → Option Value) (s : Shared) (Q E : Value → Shared → Prop)
    (b : Array UInt8) (tb : Tok) (rest : List (Addr × Obj))
    (B : Below A₀ base outer h₀) (F : Fr h₀ L s.heap m) (X : (Mine.hd.heap_39 w.params).In h₀) (N : News h₀ L s.heap rest) (T : Top Mine.hd.view_39 loose mean mg mb h₀) (hk : cs.kind = .function)
    (hd : dp ≤ 500) (hu : un ≤ 5000)
    (hret : ∀ (mx dx : Addr) (s0 s1 s3 s4 s5 : Option Value) (h' : Heap) (tk' : Nat), Fr h₀ L h' m → News h₀ L h' ((mx, (⟨.ref 119, some dx, .plain, [s0, s1, some (.bytes b tb), s3, s4, s5].toArray⟩ : Obj)) :: (dx, dictOf [] 0) :: rest) → @LT.lt Nat _ dx mx → AllLt dx rest → Q (.ref mx) { s with heap := h', toks := tk' }) :
    wpAny (model PySem.Challenge.rw_ff0001_01.row.prog w) (ktrTop dp un gd cn cs L a ccd cl outer) (call (.ref 119) [] [(Str.ofString "data", .bytes b tb)]) Q E s := by
  revert X
  k_fill
  intro X
  obtain ⟨knd, nms, g1, g2, mr⟩ := cs
  dsimp only at hk
  subst hk
  k_steps
  rename News h₀ L _ _ => nE
  rename Fr h₀ L _ _ => fE
  exact hret _ _ _ _ _ _ _ _ _ fE nE (by with_reducible assumption) (allLt_of (by with_reducible assumption))
end Mine
end S_Can

section S_LB
open PySem PySem.W PyProof.Rows PySem.Calls
open Sem (wp)
set_option maxRecDepth 100000
namespace Mine
def ByteAt (b : Array UInt8) (i : Nat) (v : Value) : Prop := ∃ c u, b[i]? = some c ∧ v = .int (c.toNat : Int) u
theorem lb_len : typeLookup (.type "bytes") "__len__" = pure (some (.builtin "bytes.__len__")) := FB.slot_bytes_len.lookup
section
variable {prog : Program} {w : World} {A : Around} {E : Value → Shared → Prop} {s : Shared} {b : Array UInt8} {t : Tok}
theorem lb_extend {R : Result → Shared → Prop} (hh : A.handled = none) (S : Addr) (res : Value) (c₀ : Nat) (hS : s.heap.get? S = some { cls := .type "list", data := .seq #[] c₀ })
    (hR : ∀ h' tk acc' c', (∀ a o, a ≠ S → s.heap.get? a = some o → h'.get? a = some o) → h'.get? S = some { cls := .type "list", dict := none, data := .seq acc' c', slots := #[] } →
      ItemsOf (ByteAt b) acc' b.size → R (.ok (.ret res)) { s with heap := h', toks := tk }) (hn : b.size ≤ sizeLine) :
    wpAny (model prog w) A.in1 (Builtin.List.listExtendWith (.ref S) (.bytes b t) res)
      (fun fin s' => match fin with | .done f => R (.ok f) s' | .again c' => c'.quiet = true ∧ codeAny (model prog w) A c' R s') (fun e s' => R (.error e) s') s := by
  have hSI : S ≠ s.heap.objs.size := Nat.ne_of_lt (Heap.lt_size hS)
  have hSf : S ∉ [s.heap.objs.size] := fun hm => hSI (List.mem_singleton.mp hm)
  unfold Builtin.List.listExtendWith
  refine wpAny_bind (wpAny_typeOf (T := "bytes") (v := .bytes b t) rfl ?_)
  have h1 : Builtin.List.listSameRef (.ref S) (.bytes b t) = false := rfl
  have h2 : (Value.type "bytes" == Value.type "list") = false := by decide
  have h3 : (Value.type "bytes" == Value.type "tuple") = false := by decide
  simp only [h1, h2, h3, Bool.or_false, Bool.false_eq_true, if_false]
  refine wpAny_bind (KBw.pyIter_bytes ?_)
  refine wpAny_bind (wpAny_holding ?_)
  unfold Builtin.List.listLengthHint
  refine wpAny_bind (wpAny_specialOf (T := "bytes") (v := .bytes b t) rfl lb_len ?_)
  wp_delta
  refine wpAny_bind (wpAny_isInstance (T := "bytes") (v := .bytes b t) (b := true) rfl (by rw [isSubtype_type]; kernel_rfl) ?_)
  show wpAny _ _ (typeOf (Value.bytes b t) >>= _) _ _ _
  refine wpAny_bind (wpAny_typeOf (T := "bytes") (v := .bytes b t) rfl ?_)
  refine wpAny_pure ?_
  rw [if_neg (by decide)]
  have W : Walks prog w A.in1 s.heap.objs.size [s.heap.objs.size] [s.heap.objs.size] b.size (ByteAt b) (fun i h => KBw.IsBytesIter h s.heap.objs.size b t i) := KBw.walks (A := A.in1) hh _ b t
  refine wpAny_pure ⟨plainId_quiet F.plain_extend_loop _, codeAny_extend_loopS W.toS hn _ hSf _ b.size 0 _ _ _ rfl (Nat.zero_le _) ⟨_, Heap.get?_push_size _ rfl, rfl, rfl⟩ (Heap.get?_push_of_some _ hS) (ItemsOf.nil _) fun s' acc' c' hm hS' hacc => ?_⟩
  rw [Moved.eq_with hm]
  refine hR s'.heap s'.toks acc' c' (fun a ob hb e => hm.heap a ob (fun hmem => ?_) (Heap.get?_push_of_some _ e)) hS' hacc
  rcases List.mem_cons.mp hmem with e' | hmem
  · exact hb e'
  · exact absurd (Heap.lt_size e) (by rw [List.mem_singleton.mp hmem]; exact Nat.lt_irrefl _)
theorem lb_init {R : Result → Shared → Prop} (hh : A.handled = none) (S : Addr) (hS : s.heap.get? S = some { cls := .type "list", data := .seq #[] })
    (hR : ∀ h' tk acc' c', (∀ a o, a ≠ S → s.heap.get? a = some o → h'.get? a = some o) → h'.get? S = some { cls := .type "list", dict := none, data := .seq acc' c', slots := #[] } →
      ItemsOf (ByteAt b) acc' b.size → R (.ok (.ret .none)) { s with heap := h', toks := tk }) (hn : b.size ≤ sizeLine) :
    wpAny (model prog w) A.in1 (Builtin.«list.__init__» ⟨[.ref S, .bytes b t], []⟩)
      (fun fin s' => match fin with | .done f => R (.ok f) s' | .again c' => c'.quiet = true ∧ codeAny (model prog w) A c' R s') (fun e s' => R (.error e) s') s := by
  show wpAny _ _ (do let old ← Builtin.List.listItems (.ref S); Builtin.List.listUpdate (.ref S) (fun _ => #[]); letGo old.toList.reverse; Builtin.List.listExtendWith (.ref S) (.bytes b t) .none) _ _ s
  refine wpAny_bind ?_
  unfold Builtin.List.listItems
  refine wpAny_bind (wpAny_seqItems hS rfl (wpAny_pure ?_))
  show wpAny _ _ (updateSeq S (fun _ => #[]) >>= fun _ => letGo (#[] : Array Value).toList.reverse >>= fun _ => Builtin.List.listExtendWith (.ref S) (.bytes b t) .none) _ _ s
  refine wpAny_bind (wpAny_updateSeq hS rfl ?_)
  have hS₂ := Heap.get?_update_self (Obj.mapSeq (fun _ => (#[] : Array Value))) hS rfl
  have oth : ∀ a o, a ≠ S → s.heap.get? a = some o → (s.heap.update S (Obj.mapSeq (fun _ => (#[] : Array Value)))).get? a = some o :=
    fun a o hb e => (Heap.get?_update_other _ _ (Ne.symm hb)).trans e
  refine wpAny_bind (wpAny_letGo ?_)
  refine lb_extend (hn := hn) hh S .none _ hS₂ fun h' tk acc' c' hk hS' hacc => ?_
  exact hR h' tk acc' c' (fun a o hb e => hk a o hb (oth a o hb e)) hS' hacc
theorem lb_call {Q : Value → Shared → Prop} (hh : A.handled = none)
    (hQ : ∀ h' tk acc' c', (∀ a o, s.heap.get? a = some o → h'.get? a = some o) →
      h'.get? s.heap.objs.size = some { cls := .type "list", dict := none, data := .seq acc' c', slots := #[] } → ItemsOf (ByteAt b) acc' b.size → Q (.ref s.heap.objs.size) { s with heap := h', toks := tk }) (hn : b.size ≤ sizeLine) :
    wpAny (model prog w) A (call (.type "list") [.bytes b t]) Q E s := by
  refine callType_codes (Q₁ := fun obj s₁ => obj = .ref s.heap.objs.size ∧ s₁ = { s with heap := s.heap.push { cls := .type "list", data := .seq #[] } }) F.called_list (F.typeCall_list_1 _) F.entry_list_init
    (code_list_new _ ⟨rfl, rfl⟩) fun obj s₁ h₁ => ?_
  obtain ⟨rfl, rfl⟩ := h₁
  have hS : (s.heap.push { cls := .type "list", data := .seq #[] }).get? s.heap.objs.size = some { cls := .type "list", data := .seq #[] } := Heap.get?_push_size _ rfl
  refine ⟨⟨_, hS, rfl⟩, F.args_list_init_2 _ _, lb_init (A := A.in1) (hn := hn) hh _ hS fun h' tk acc' c' hk hS' hacc => ?_⟩
  exact ⟨rfl, hQ h' tk acc' c' (fun a o e => hk a o (Nat.ne_of_lt (Heap.lt_size e)) (Heap.get?_push_of_some _ e)) hS' hacc⟩
theorem ints_of_items : ∀ (vs : List Value) (ns : List Int), vs.length = ns.length → (∀ (j : Nat) (v : Value), vs[j]? = some v → ∃ n u, ns[j]? = some n ∧ v = .int n u) → IntsAre vs ns
  | [], [], _, _ => .nil
  | [], _ :: _, h, _ => by cases h
  | _ :: _, [], h, _ => by cases h
  | v :: vs, n :: ns, h, hj => by
    obtain ⟨n', u, e, rfl⟩ := hj 0 v rfl
    cases e
    exact .cons _ _ (ints_of_items vs ns (Nat.succ.inj h) fun j x hx => hj (j + 1) x hx)
theorem list_bytes {h₀ : Heap} {L : Addr} {m : Str → Option Value} {news : List (Addr × Obj)} {ks : List Int} {Q : Value → Shared → Prop} (F : Fr h₀ L s.heap m) (N : News h₀ L s.heap news) (hh : A.handled = none) (hk : KBw.bInts b = ks) (hn : ks.length ≤ 4096)
    (hQ : ∀ D us n h' tk, Fr h₀ L h' m → News h₀ L h' ((D, listOf (List.toArray us) n) :: news) → (∀ p ∈ news, p.1 < D) → IntsAre us ks → Q (.ref D) { s with heap := h', toks := tk }) :
    wpAny (model prog w) A (call (.type "list") [.bytes b t]) Q E s := by
  have hsz : b.size = ks.length := by rw [← hk, KBw.ints_length]
  refine lb_call hh (fun h' tk acc' c' hkeep hS hacc => ?_) (by rw [hsz, sizeLine_eq]; omega)
  refine hQ s.heap.objs.size acc'.toList c' h' tk (F.keeps hkeep) ?_ (fun p hp => Heap.lt_size (N p hp).1) ?_
  · intro p hp
    rcases List.mem_cons.mp hp with rfl | hp
    · refine ⟨by rw [Array.toArray_toList]; exact hS, ?_, ?_⟩
      · exact Ne.symm (Nat.ne_of_lt F.ns.lt)
      · cases e : h₀.get? s.heap.objs.size with
        | none => rfl
        | some o => exact absurd (Heap.lt_size (F.keep _ _ e)) (Nat.lt_irrefl _)
    · exact ⟨hkeep _ _ (N p hp).1, (N p hp).2⟩
  · refine ints_of_items _ _ (by rw [Array.length_toList, hacc.1, hsz]) fun j v hv => ?_
    obtain ⟨c, u, hc, rfl⟩ := hacc.2 j v (by simpa using hv)
    exact ⟨_, u, by rw [← hk]; exact KBw.ints_get hc, rfl⟩
end
end Mine
end S_LB

section S_Dl
namespace Mine
theorem tk_len {l : List Int} {a b n : Nat} (h : l.length ≤ n) : ((l.drop a).take b).length ≤ n := by
  rw [List.length_take, List.length_drop]
  omega
theorem dl_sf {row : List Int} {len : Int} {data : List Int} {long : Bool} (h : dueOf row = some (.sf len data long)) : data.length ≤ row.length := by
  unfold dueOf at h
  repeat' split at h
  all_goals first
    | (cases h; done)
    | (cases h; exact tk_len (Nat.le_refl _))
theorem dl_ff {row : List Int} {len : Int} {data : List Int} {long : Bool} (h : dueOf row = some (.ff len data long)) : data.length ≤ row.length := by
  unfold dueOf at h
  repeat' split at h
  all_goals first
    | (cases h; done)
    | (cases h; exact tk_len (Nat.le_refl _))
theorem dl_cf {row : List Int} {seq : Int} {data : List Int} (h : dueOf row = some (.cf seq data)) : data.length ≤ row.length := by
  unfold dueOf at h
  repeat' split at h
  all_goals first
    | (cases h; done)
    | (cases h; rw [List.length_drop]; omega)
theorem dl_fc {row : List Int} {bs st fs : Int} (h : dueOf row = some (.fc bs st fs)) : bs = row.getD 1 0 ∧ st = row.getD 2 0 ∧ fs = row.getD 0 0 % 16 ∧ ¬ 2 < row.getD 0 0 % 16 ∧ ¬ (127 < row.getD 2 0 ∧ row.getD 2 0 < 241) ∧ ¬ 249 < row.getD 2 0 := by
  unfold dueOf at h
  repeat' split at h
  all_goals first
    | (cases h; done)
    | (cases h; refine ⟨rfl, rfl, rfl, ?_, ?_, ?_⟩ <;> omega)
theorem dl_le {os : List Int} {n k z : Nat} (h : k ≤ (os.drop n).length) (hz : os.length = z) (h2 : z ≤ 4096) : k ≤ 4096 := by
  rw [List.length_drop] at h
  omega
end Mine
end S_Dl

section S_NeDue
open PySem PySem.W PyProof.Rows PySem.Calls
namespace Mine
def Pl (x y : Value) (d : PyData) : Prop := (∀ h : Heap, Reads h x d []) ∧ (∀ h : Heap, Reads h y d []) ∧ d.canLay0 = true ∧ d.depth = 0 ∧ PyData.eqv d d = true
theorem pl_int {i : Int} {t u : Tok} : Pl (.int i t) (.int i u) (.int i) := ⟨fun _ => .int _ _, fun _ => .int _ _, rfl, rfl, by simp [PyData.eqv]⟩
theorem pl_bool {b : Bool} : Pl (.bool b) (.bool b) (.bool b) := ⟨fun _ => .bool _, fun _ => .bool _, rfl, rfl, by simp [PyData.eqv]⟩
theorem pl_none : Pl .none .none .none := ⟨fun _ => .none, fun _ => .none, rfl, rfl, by simp [PyData.eqv]⟩
theorem nd_list {h₀ h : Heap} {L D : Addr} {news : List (Addr × Obj)} {us : List Value} {n : Nat} {ks : List Int} (N : News h₀ L h news) (hm : (D, listOf us.toArray n) ∈ news) (i : IntsAre us ks) : Reads h (.ref D) (.list (ks.map PyData.int)) [D] :=
  reads_newData (News.isList N hm) (ke_carried i)
theorem nd_reads {h₀ h : Heap} {L a D : Addr} {news : List (Addr × Obj)} {us : List Value} {n1 na : Nat} {ks : List Int} {x0 x1 x3 x4 x5 x6 x7 : Value} {d0 d1 d3 d4 d5 d6 d7 : PyData}
    (N : News h₀ L h news) (hm : (D, listOf us.toArray n1) ∈ news) (i : IntsAre us ks) (ha : (a, ({ cls := .type "tuple", data := .seq [x0, x1, .ref D, x3, x4, x5, x6, x7].toArray na } : Obj)) ∈ news)
    (p0 : Reads h x0 d0 []) (p1 : Reads h x1 d1 []) (p3 : Reads h x3 d3 []) (p4 : Reads h x4 d4 []) (p5 : Reads h x5 d5 []) (p6 : Reads h x6 d6 []) (p7 : Reads h x7 d7 []) :
    Reads h (.ref a) (.tuple [d0, d1, .list (ks.map PyData.int), d3, d4, d5, d6, d7]) ([] ++ ([] ++ ([D] ++ ([] ++ ([] ++ ([] ++ ([] ++ ([] ++ [])))))))) :=
  reads_tuple_at (News.get N ha) rfl rfl (.cons p0 (.cons p1 (.cons (nd_list N hm i) (.cons p3 (.cons p4 (.cons p5 (.cons p6 (.cons p7 .nil))))))))
theorem nd_shaped {ks : List Int} {d0 d1 d3 d4 d5 d6 d7 : PyData} (c0 : d0.canLay0 = true) (c1 : d1.canLay0 = true) (c3 : d3.canLay0 = true) (c4 : d4.canLay0 = true) (c5 : d5.canLay0 = true) (c6 : d6.canLay0 = true) (c7 : d7.canLay0 = true)
    (e0 : d0.depth = 0) (e1 : d1.depth = 0) (e3 : d3.depth = 0) (e4 : d4.depth = 0) (e5 : d5.depth = 0) (e6 : d6.depth = 0) (e7 : d7.depth = 0) : SeqAt.shaped (.tuple [d0, d1, .list (ks.map PyData.int), d3, d4, d5, d6, d7]) = true := by
  simp [SeqAt.shaped, PyData.canLay0, PyData.canLayAll0, PyData.depth, PyData.depthAll, ke_canLayAll0, ke_depthAll, c0, c1, c3, c4, c5, c6, c7, e0, e1, e3, e4, e5, e6, e7]
theorem nd_eqv {ks : List Int} {d0 d1 d3 d4 d5 d6 d7 : PyData} (c0 : PyData.eqv d0 d0 = true) (c1 : PyData.eqv d1 d1 = true) (c3 : PyData.eqv d3 d3 = true) (c4 : PyData.eqv d4 d4 = true) (c5 : PyData.eqv d5 d5 = true) (c6 : PyData.eqv d6 d6 = true) (c7 : PyData.eqv d7 d7 = true) :
    PyData.eqv (.tuple [d0, d1, .list (ks.map PyData.int), d3, d4, d5, d6, d7]) (.tuple [d0, d1, .list (ks.map PyData.int), d3, d4, d5, d6, d7]) = true := by
  simp [PyData.eqv, PyData.eqvAll, ked_eqvAll, c0, c1, c3, c4, c5, c6, c7]
theorem ne_due {prog : Program} {w : World} {A : Around} {E : Value → Shared → Prop} {s : Shared} {h₀ : Heap} {L : Addr} {news : List (Addr × Obj)} {Q : Value → Shared → Prop} {a b D D' : Addr} {us vs : List Value} {n1 n2 na nb : Nat} {ks : List Int} {x0 x1 x3 x4 x5 x6 x7 y0 y1 y3 y4 y5 y6 y7 : Value} {d0 d1 d3 d4 d5 d6 d7 : PyData}
    (N : News h₀ L s.heap news) (ha : (a, ({ cls := .type "tuple", data := .seq [x0, x1, .ref D, x3, x4, x5, x6, x7].toArray na } : Obj)) ∈ news) (hb : (b, ({ cls := .type "tuple", data := .seq [y0, y1, .ref D', y3, y4, y5, y6, y7].toArray nb } : Obj)) ∈ news)
    (hm : (D, listOf us.toArray n1) ∈ news) (hm' : (D', listOf vs.toArray n2) ∈ news) (i : IntsAre us ks) (i' : IntsAre vs ks) (p0 : Pl x0 y0 d0) (p1 : Pl x1 y1 d1) (p3 : Pl x3 y3 d3) (p4 : Pl x4 y4 d4) (p5 : Pl x5 y5 d5) (p6 : Pl x6 y6 d6) (p7 : Pl x7 y7 d7)
    (hu : A.units + 64 < cLine) (h : Q (.bool false) s) : wpAny (model prog w) A (compareOp .NotEq (.ref a) (.ref b)) Q E s := by
  refine ne_dataH (nd_reads N hm i ha (p0.1 _) (p1.1 _) (p3.1 _) (p4.1 _) (p5.1 _) (p6.1 _) (p7.1 _)) (nd_reads N hm' i' hb (p0.2.1 _) (p1.2.1 _) (p3.2.1 _) (p4.2.1 _) (p5.2.1 _) (p6.2.1 _) (p7.2.1 _))
    (nd_shaped p0.2.2.1 p1.2.2.1 p3.2.2.1 p4.2.2.1 p5.2.2.1 p6.2.2.1 p7.2.2.1 p0.2.2.2.1 p1.2.2.2.1 p3.2.2.2.1 p4.2.2.2.1 p5.2.2.2.1 p6.2.2.2.1 p7.2.2.2.1) (nd_shaped p0.2.2.1 p1.2.2.1 p3.2.2.1 p4.2.2.1 p5.2.2.1 p6.2.2.1 p7.2.2.1 p0.2.2.2.1 p1.2.2.2.1 p3.2.2.2.1 p4.2.2.2.1 p5.2.2.2.1 p6.2.2.2.1 p7.2.2.2.1) hu ?_
  rw [nd_eqv p0.2.2.2.2 p1.2.2.2.2 p3.2.2.2.2 p4.2.2.2.2 p5.2.2.2.2 p6.2.2.2.2 p7.2.2.2.2]
  exact h
end Mine
end S_NeDue

section S_Sec
open PySem PySem.W PyProof.Rows PySem.Calls
namespace Mine
theorem sec_fin1 {st : Int} (h0 : 0 ≤ st) (h1 : st < 256) : Float64.isInf (Float64.ofFrac (decide (st < 0) != decide ((1000 : Int) < 0)) st.natAbs (Int.natAbs 1000)) = false := by
  have key : ∀ n : Fin 256, Float64.isInf (Float64.ofFrac (decide ((n.val : Int) < 0) != decide ((1000 : Int) < 0)) (n.val : Int).natAbs (Int.natAbs 1000)) = false := by decide +kernel
  obtain ⟨n, rfl⟩ := Int.eq_ofNat_of_zero_le h0
  exact key ⟨n, by omega⟩
theorem sec_fin2 {st : Int} (h0 : 0 ≤ st) (h1 : st < 256) : Float64.isInf (Float64.ofFrac (decide (st - 240 < 0) != decide ((10000 : Int) < 0)) (st - 240).natAbs (Int.natAbs 10000)) = false := by
  have key : ∀ n : Fin 256, Float64.isInf (Float64.ofFrac (decide ((n.val : Int) - 240 < 0) != decide ((10000 : Int) < 0)) ((n.val : Int) - 240).natAbs (Int.natAbs 10000)) = false := by decide +kernel
  obtain ⟨n, rfl⟩ := Int.eq_ofNat_of_zero_le h0
  exact key ⟨n, by omega⟩
theorem sec_cmp {st : Int} (h0 : 0 ≤ st) (h1 : st < 256) : Float64.cmp (secOf st) (secOf st) = some Ordering.eq := by
  have key : ∀ n : Fin 256, Float64.cmp (secOf (n.val : Int)) (secOf (n.val : Int)) = some Ordering.eq := by decide +kernel
  obtain ⟨n, rfl⟩ := Int.eq_ofNat_of_zero_le h0
  exact key ⟨n, by omega⟩
section
variable {prog : Program} {w : World} {A : Around} {E : Value → Shared → Prop} {s : Shared} {t u : Tok} {st : Int} {Q : Value → Shared → Prop}
theorem ne_sec1 (h0 : 0 ≤ st) (h1 : st < 256) (hl : st < 128) (h : Q (.bool false) s) : wpAny (model prog w) A (compareOp .NotEq (.float (secOf st) t) (.float (Float64.ofFrac (decide (st < 0) != decide ((1000 : Int) < 0)) st.natAbs (Int.natAbs 1000)) u)) Q E s := by
  rw [sec_lo (by omega)]
  refine AutoFloatOps.ne_0 ?_
  rw [sec_cmp h0 h1]
  exact h
theorem ne_sec2 (h0 : 0 ≤ st) (h1 : st < 256) (hl : ¬st < 128) (h : Q (.bool false) s) : wpAny (model prog w) A (compareOp .NotEq (.float (secOf st) t) (.float (Float64.ofFrac (decide (st - 240 < 0) != decide ((10000 : Int) < 0)) (st - 240).natAbs (Int.natAbs 10000)) u)) Q E s := by
  rw [sec_hi (by omega)]
  refine AutoFloatOps.ne_0 ?_
  rw [sec_cmp h0 h1]
  exact h
theorem div_sec1 (h0 : 0 ≤ st) (h1 : st < 256) (h : Q (.float (Float64.ofFrac (decide (st < 0) != decide ((1000 : Int) < 0)) st.natAbs (Int.natAbs 1000)) s.toks) { s with toks := s.toks + 1 }) : wpAny (model prog w) A (binaryOp .Div (.int st t) (.int 1000 u)) Q E s :=
  AutoIntOps.truediv_2 (by decide) (by rw [sec_fin1 h0 h1]; decide) h
theorem div_sec2 (h0 : 0 ≤ st) (h1 : st < 256) (h : Q (.float (Float64.ofFrac (decide (st - 240 < 0) != decide ((10000 : Int) < 0)) (st - 240).natAbs (Int.natAbs 10000)) s.toks) { s with toks := s.toks + 1 }) : wpAny (model prog w) A (binaryOp .Div (.int (st - 240) t) (.int 10000 u)) Q E s :=
  AutoIntOps.truediv_2 (by decide) (by rw [sec_fin2 h0 h1]; decide) h
end
theorem st_bd {os : List Int} {n : Nat} {bs st fs : Int} (h : dueOf (os.drop n) = some (.fc bs st fs)) (hb : ∀ x ∈ os, 0 ≤ x ∧ x < 256) : 0 ≤ st ∧ st < 256 := by
  rw [(dl_fc h).2.1]
  exact drop_bd hb n 2
end Mine
end S_Sec

section S_Fcd
open PySem PySem.W PyProof.Rows PySem.Calls
namespace Mine
theorem band15 {x : Int} (h0 : 0 ≤ x) (h1 : x < 16) : Builtin.bitAnd x 15 = x := by rw [band_lo, fm16]; omega
theorem bor48 {x : Int} (h0 : 0 ≤ x) (h1 : x < 16) : Builtin.bitOr 48 x = 48 + x := bor_disj (a := 3) 4 (by decide) h0 h1
theorem due_fcd {s b p : Int} (s0 : 0 ≤ s) (s1 : s < 3) (b0 : 0 ≤ b) (b1 : b < 256) (hp : (0 ≤ p ∧ p ≤ 127) ∨ (241 ≤ p ∧ p ≤ 249)) : dueOf [48 + s, b, p] = some (.fc b p s) := by
  unfold dueOf
  have e0 : ([48 + s, b, p] : List Int).getD 0 0 = 48 + s := rfl
  have e1 : ([48 + s, b, p] : List Int).getD 1 0 = b := rfl
  have e2 : ([48 + s, b, p] : List Int).getD 2 0 = p := rfl
  have el : ([48 + s, b, p] : List Int).length = 3 := rfl
  rw [e0, e1, e2, el]
  rw [if_neg (by decide), if_neg (by omega), if_neg (by omega), if_neg (by omega), if_neg (by omega), if_neg (by omega)]
  have : (48 + s) % 16 = s := by omega
  rw [this]
theorem gp {a b z : Int} {i : Nat} (h : [a, b].getD i 0 = z) (ha : 0 ≤ a ∧ a < 128) (hb : 241 ≤ b ∧ b < 250) : (0 ≤ z ∧ z ≤ 127) ∨ (241 ≤ z ∧ z ≤ 249) := by
  match i, h with
  | 0, h => have e : a = z := h; omega
  | 1, h => have e : b = z := h; omega
  | n + 2, h => have e : (0 : Int) = z := by simpa using h
                omega
theorem fcd_all {s b p : Int} (s0 : 0 ≤ s) (s1 : s < 3) (b0 : 0 ≤ b) (b1 : b < 256) (hp : (0 ≤ p ∧ p ≤ 127) ∨ (241 ≤ p ∧ p ≤ 249)) : ∀ x ∈ [48 + s, b, p], 0 ≤ x ∧ x < 256 := by
  intro x hx
  rcases List.mem_cons.mp hx with rfl | hx
  · omega
  rcases List.mem_cons.mp hx with rfl | hx
  · omega
  rcases List.mem_cons.mp hx with rfl | hx
  · omega
  · nomatch hx
theorem fcd_kind {s b p : Int} (s0 : 0 ≤ s) (s1 : s < 3) : (0 : Int) = 0 ∧ 0 < (List.drop (Int.toNat 0) [48 + s, b, p]).length ∧ ((List.drop (Int.toNat 0) [48 + s, b, p]).getD (Int.toNat 0) 0).fdiv 16 = 3 := by
  refine ⟨rfl, by show 0 < 3; decide, ?_⟩
  show (48 + s).fdiv 16 = 3
  rw [fd16]
  omega
theorem band255 {x : Int} (h0 : 0 ≤ x) (h1 : x < 256) : Builtin.bitAnd x 255 = x := by rw [bitAnd_m8]; omega
theorem t5_reads {h₀ h : Heap} {L a : Addr} {news : List (Addr × Obj)} {na : Nat} {x0 x1 x2 x3 x4 : Int} {t0 t1 t2 t3 t4 : Tok} (N : News h₀ L h news) (ha : (a, ({ cls := .type "tuple", data := .seq [Value.int x0 t0, .int x1 t1, .int x2 t2, .int x3 t3, .int x4 t4].toArray na } : Obj)) ∈ news) :
    Reads h (.ref a) (.tuple [.int x0, .int x1, .int x2, .int x3, .int x4]) ([] ++ ([] ++ ([] ++ ([] ++ ([] ++ []))))) :=
  reads_tuple_at (News.get N ha) rfl rfl (.cons (.int _ _) (.cons (.int _ _) (.cons (.int _ _) (.cons (.int _ _) (.cons (.int _ _) .nil)))))
theorem eq_t5 {prog : Program} {w : World} {A : Around} {E : Value → Shared → Prop} {s : Shared} {h₀ : Heap} {L : Addr} {news : List (Addr × Obj)} {Q : Value → Shared → Prop} {a b : Addr} {na nb : Nat} {x0 x1 x2 x3 x4 y0 y1 y2 y3 y4 : Int} {t0 t1 t2 t3 t4 u0 u1 u2 u3 u4 : Tok}
    (N : News h₀ L s.heap news) (ha : (a, ({ cls := .type "tuple", data := .seq [Value.int x0 t0, .int x1 t1, .int x2 t2, .int x3 t3, .int x4 t4].toArray na } : Obj)) ∈ news) (hb : (b, ({ cls := .type "tuple", data := .seq [Value.int y0 u0, .int y1 u1, .int y2 u2, .int y3 u3, .int y4 u4].toArray nb } : Obj)) ∈ news)
    (e0 : x0 = y0) (e1 : x1 = y1) (e2 : x2 = y2) (e3 : x3 = y3) (e4 : x4 = y4) (hu : A.units + 64 < cLine) (h : Q (.bool true) s) : wpAny (model prog w) A (compareOp .Eq (.ref a) (.ref b)) Q E s := by
  subst e0 e1 e2 e3 e4
  refine eq_dataH (t5_reads N ha) (t5_reads N hb) (by simp [SeqAt.shaped, PyData.canLay0, PyData.canLayAll0, PyData.depth, PyData.depthAll]) (by simp [SeqAt.shaped, PyData.canLay0, PyData.canLayAll0, PyData.depth, PyData.depthAll]) hu ?_
  have e : PyData.eqv (.tuple [.int x0, .int x1, .int x2, .int x3, .int x4]) (.tuple [.int x0, .int x1, .int x2, .int x3, .int x4]) = true := by simp [PyData.eqv, PyData.eqvAll]
  rw [e]
  exact h
theorem ints3 {x y z : Int} {t u v : Tok} : IntsAre [Value.int x t, .int y u, .int z v] [x, y, z] := .cons _ _ (.cons _ _ (.cons _ _ .nil))
end Mine
end S_Fcd

section S_Law1
open PySem PySem.W PyProof.Rows PySem.Calls
namespace Mine
def ToldR (h₀ : Heap) (L : Addr) (m : Str → Option Value) (cell : Addr × Obj) (s : Shared) (v : Value) (s' : Shared) : Prop :=
  ∃ l vs ns rest h' tk, v = .ref l ∧ s' = { s with heap := h', toks := tk } ∧ Fr h₀ L h' m ∧ News h₀ L h' (cell :: rest) ∧ (h₀.IsList l vs.toArray ∨ ∃ n', (l, listOf vs.toArray n') ∈ rest) ∧ IntsAre vs ns ∧ 0 < ns.length ∧ ns.length ≤ 63 ∧ ∀ p ∈ rest, p.1 ≠ cell.1
theorem told_join {prog : Program} {w : World} {A : Around} {t : Sem Value} {E : Value → Shared → Prop} {s : Shared} {Q : Value → Shared → Prop} {h₀ : Heap} {L : Addr} {m : Str → Option Value} {cell : Addr × Obj}
    (F : Fr h₀ L s.heap m) (N : News h₀ L s.heap [cell]) (h1 : wpAny (model prog w) A t (ToldR h₀ L m cell s) E s)
    (h2 : ∀ (m' : Str → Option Value) l vs ns rest h' tk, Fr h₀ L h' m' → News h₀ L h' (cell :: rest) → (h₀.IsList l vs.toArray ∨ ∃ n', (l, listOf vs.toArray n') ∈ rest) → IntsAre vs ns → 0 < ns.length → ns.length ≤ 63 → (∀ p ∈ rest, p.1 ≠ cell.1) → Q (.ref l) { s with heap := h', toks := tk }) :
    wpAny (model prog w) A t Q E s := by
  refine wpAny_mono h1 ?_ (fun _ _ h => h)
  rintro v s' ⟨l, vs, ns, rest, h', tk, rfl, rfl, a, b, c, d, e, f, g⟩
  exact h2 m l vs ns rest h' tk a b c d e f g
theorem sub_drop2 {a b c : Addr × Obj} {r : List (Addr × Obj)} : ∀ p ∈ a :: c :: r, p ∈ a :: b :: c :: r := fun p hp => by
  rcases List.mem_cons.mp hp with rfl | hp
  · exact .head _
  · exact .tail _ (.tail _ hp)
theorem gz {l : List Int} {i : Nat} {z hi : Int} (h : l.getD i 0 = z) (hh : 0 < hi) (hl : ∀ x ∈ l, 0 ≤ x ∧ x < hi) : 0 ≤ z ∧ z < hi := by
  subst h
  rw [List.getD_eq_getElem?_getD]
  cases e : l[i]? with
  | none => exact ⟨Int.le_refl _, hh⟩
  | some x => exact hl x (List.mem_of_getElem? e)
theorem keep6 {h₀ h : Heap} {L : Addr} {a b c d e f : Addr × Obj} {r : List (Addr × Obj)} (N : News h₀ L h (a :: b :: c :: d :: e :: f :: r)) : News h₀ L h (a :: f :: r) := fun p hp => by
  rcases List.mem_cons.mp hp with rfl | hp
  · exact N _ (.head _)
  · exact N _ (.tail _ (.tail _ (.tail _ (.tail _ (.tail _ hp)))))
theorem sub_tail2 {a b : Addr × Obj} {r : List (Addr × Obj)} : ∀ p ∈ r, p ∈ a :: b :: r := fun _ hp => .tail _ (.tail _ hp)
theorem keep7 {h₀ h : Heap} {L : Addr} {a b c d e f : Addr × Obj} {r : List (Addr × Obj)} (N : News h₀ L h (a :: b :: c :: d :: e :: f :: r)) : News h₀ L h (a :: f :: r) := keep6 N
theorem not_stored {z : Str} (h : [Str.ofString "ahead", Str.ofString "first", Str.ofString "second", Str.ofString "third", Str.ofString "body", Str.ofString "octets", Str.ofString "due", Str.ofString "pdu", Str.ofString "pause"].contains z = false) :
    z ≠ Str.ofString "ahead" ∧ z ≠ Str.ofString "first" ∧ z ≠ Str.ofString "second" ∧ z ≠ Str.ofString "third" ∧ z ≠ Str.ofString "body" ∧ z ≠ Str.ofString "octets" ∧ z ≠ Str.ofString "due" ∧ z ≠ Str.ofString "pdu" ∧ z ≠ Str.ofString "pause" := by
  have key : ∀ x, x ∈ [Str.ofString "ahead", Str.ofString "first", Str.ofString "second", Str.ofString "third", Str.ofString "body", Str.ofString "octets", Str.ofString "due", Str.ofString "pdu", Str.ofString "pause"] → z ≠ x := by
    intro x hx e
    subst e
    rw [List.contains_iff_mem.mpr hx] at h
    cases h
  refine ⟨key _ ?_, key _ ?_, key _ ?_, key _ ?_, key _ ?_, key _ ?_, key _ ?_, key _ ?_, key _ ?_⟩ <;> (repeat (first | exact List.Mem.head _ | refine List.Mem.tail _ ?_))
theorem told_in {base : Heap} {l : Addr} {vs : List Value} {rest big : List (Addr × Obj)} (h : base.IsList l vs.toArray ∨ ∃ n', (l, listOf vs.toArray n') ∈ rest) (hs : ∀ p ∈ rest, p ∈ big) : base.IsList l vs.toArray ∨ ∃ n', (l, listOf vs.toArray n') ∈ big := by
  rcases h with h | ⟨n', h⟩
  · exact Or.inl h
  · exact Or.inr ⟨n', hs _ h⟩
local macro_rules | `(tactic| kst_mem) => `(tactic| (intro p9 hp9; (repeat (first | exact hp9 | refine List.Mem.tail _ ?_))))
local macro_rules | `(tactic| k_all) => `(tactic| first | with_reducible assumption | (refine' List.forall_mem_cons.mpr ⟨?a, ?b⟩; (case a => k_ne); (case b => k_all)))
local macro_rules | `(tactic| walk_at "call ref") => `(tactic| (k_here; (with_reducible show wpAny _ _ (call (Value.ref 134) _) _ _ _); (with_reducible rename News _ _ _ _ => nD); k_dflt ((refine' drawn_ok _ _ _ _ _ _ _ _ _ _ _ _ _ _ _ _ _ _ _ _ _ _ _ _ _ _ _ ?zB ?zF ?zX ?zN ?zT ?zk ?zl ?zI ?zg ?zh ?ze ?za ?zb ?zc ?zd ?zp ?zq ?_); (case zB => k_asm); (case zF => k_asm); (case zX => k_asm); (case zN => (refine' news_tail nD (Del.sub ?zs); (case zs => (repeat (first | exact Del.head | apply Del.tail))))); (case zT => k_asm); (case zk => rfl); (case zl => (refine' told_in ?zu ?zv; (case zu => with_reducible assumption); (case zv => kst_mem))); (case zI => with_reducible assumption); (case zg => omega); (case zh => omega); (case ze => k_all); (case za => omega); (case zb => omega); (case zc => decide); (case zd => decide); (case zp => k_room); (case zq => k_units)); intro _ _ _ _ _ F' N' _ _))
local macro_rules | `(tactic| cell_eq) => `(tactic| first | with_reducible assumption | exact octs_comp (by with_reducible assumption) | exact octs3 (by omega) (by omega) (by omega) (by omega) (by omega) (by omega) | exact octs6 (by omega) (by omega) (by omega) (by omega))
local macro_rules | `(tactic| walk_at "binaryOp Add ref ref") => `(tactic| (k_here; k_dflt (refine' oct_add ?zF ?zN ?za ?zb ?zi ?zj ?zz ?_; (case zF => k_asm); (case zN => k_asm); (case za => kmk_list); (case zb => kmk_list); (case zi => cell_eq); (case zj => cell_eq); (case zz => omega)); intro D' ws' h' F' N' l1 oX'; (try k_lt l1)))
local macro_rules | `(tactic| walk_at "binaryOp Mult ref int") => `(tactic| (k_here; k_dflt (refine' oct_mul ?zF ?zN ?za ?zi ?zj ?_; (case zF => k_asm); (case zN => k_asm); (case za => kmk_list); (case zi => omega); (case zj => omega)); intro D' ws' h' F' N' l1 oX'; (try k_lt l1)))
local macro_rules | `(tactic| walk_at "subscriptTail") => `(tactic| (k_here; (with_reducible show wpAny _ _ (subscriptTail _ (PySem.Expr.Slice (some _) none none _) (Value.ref _) (Value.ref _)) _ _ _); k_dflt (refine' oct_from ?zF ?zN ?za ?zi ?zn ?zx ?zp ?zq ?_ ?zs ?zt; (case zF => k_asm); (case zN => k_asm); (case za => kmk_list); (case zp => kmk_part); (case zq => kmk_part); (case zi => cell_eq); (case zn => omega); (case zx => omega); (case zs => with_unfolding_all rfl); (case zt => kmk_pure)); intro D' ws' h' F' N' l1 oX'; (try k_lt l1)))
local macro_rules | `(tactic| walk_at "subscriptTail") => `(tactic| (k_here; (with_reducible show wpAny _ _ (subscriptTail _ (PySem.Expr.Slice none (some _) none _) (Value.ref _) (Value.ref _)) _ _ _); k_dflt ((refine kba_turn (value' := PySem.Expr.Name (Str.ofString "q") ⟨0, 0, 0, 0⟩) (fun _ => rfl) ?_); refine' oct_upto ?zF ?zN ?za ?zi ?zn ?zx ?zy ?zp ?zq ?_ ?zs ?zt; (case zF => k_asm); (case zN => k_asm); (case za => kmk_list); (case zp => kmk_part); (case zq => kmk_part); (case zi => cell_eq); (case zn => omega); (case zx => omega); (case zy => omega); (case zs => with_unfolding_all rfl); (case zt => kmk_pure)); intro D' ws' h' F' N' l1 oX'; (try k_lt l1)))
local macro_rules | `(tactic| walk_at "subscriptTail Name Slice ref ref") => `(tactic| walk_at "subscriptTail")
local macro_rules | `(tactic| walk_at "eval Name") => `(tactic| (k_here; (with_reducible show wpAny _ _ (eval (Expr.Name (Str.ofString "range") _) _) _ _ _); (with_reducible refine inCells ?_); (with_unfolding_all refine glC_builtin (by assumption) (by assumption) (by boot_fast) ?_)))
local macro_rules | `(tactic| walk_at "call ref") => `(tactic| (k_here; (with_reducible show wpAny _ _ (call (Value.ref 139) _) _ _ _); (with_reducible rename News _ _ _ _ => nD); k_dflt ((refine' read_ok _ _ _ _ _ _ _ _ _ _ _ _ _ _ _ _ _ _ _ _ _ _ _ _ ?zB ?zF ?zX ?zN ?zT ?zk ?zI ?zg ?zh ?za ?zb ?zp ?zq ?znone ?zsf ?zff ?zcf ?zfc); (case zB => k_asm); (case zF => k_asm); (case zX => k_asm); (case zN => (refine' news_tail nD (Del.sub ?zs); (case zs => (repeat (first | exact Del.head | apply Del.tail))))); (case zT => k_asm); (case zk => rfl); (case zI => with_reducible assumption); (case zg => omega); (case zh => with_reducible assumption); (case za => omega); (case zb => omega); (case zp => decide); (case zq => decide); (case znone => intro due h' tk' F' N'); (case zsf => intro kk len data long due hkk h' tk' tp dl dvs t1 t2 n1 n2 F' N' iD); (case zff => intro kk len data long due hkk h' tk' tp dl dvs t1 t2 n1 n2 F' N' iD); (case zcf => intro kk seq data due hkk h' tk' tp dl dvs t1 t2 n1 n2 F' N' iD); (case zfc => intro kk bs st fs due hkk h' tk' tp dl dvs t1 t2 t3 t4 n1 n2 F' N' iD))))
local macro_rules | `(tactic| walk_at "exec Try") => `(tactic| (k_here; k_dflt (refine wpAny_Try_except ?_)))
local macro_rules | `(tactic| walk_at "call type:list") => `(tactic| (k_here; (with_reducible show wpAny _ _ (call (Value.type "list") [Value.bytes _ _]) _ _ _); k_dflt (refine' list_bytes ?zF ?zN ?zh ?zk ?zn ?_; (case zF => k_asm); (case zN => k_asm); (case zh => rfl); (case zk => with_reducible assumption); (case zn => first | with_reducible assumption | decide)); intro D' us' n' h' tk' F' N' l1 hI'; (try k_lt l1)))
local macro_rules | `(tactic| walk_at "compareOp NotEq ref ref") => `(tactic| (k_here; (with_reducible rename News _ _ _ _ => nD); k_dflt (refine' ne_due nD ?za ?zb ?zm ?zn ?zi ?zj ?z0 ?z1 ?z3 ?z4 ?z5 ?z6 ?z7 ?zu ?_; (case za => k_mem); (case zb => k_mem); (case zm => k_mem); (case zn => k_mem); (case zi => with_reducible assumption); (case zj => with_reducible assumption); (case z0 => first | exact pl_int | exact pl_none | exact pl_bool); (case z1 => first | exact pl_int | exact pl_none | exact pl_bool); (case z3 => first | exact pl_int | exact pl_none | exact pl_bool); (case z4 => first | exact pl_int | exact pl_none | exact pl_bool); (case z5 => first | exact pl_int | exact pl_none | exact pl_bool); (case z6 => first | exact pl_int | exact pl_none | exact pl_bool); (case z7 => first | exact pl_int | exact pl_none | exact pl_bool); (case zu => first | decide | k_units))))
local macro_rules | `(tactic| walk_at "compareOp NotEq float float") => `(tactic| (k_here; k_dflt (first | with_reducible refine ne_sec1 (by with_reducible assumption) (by with_reducible assumption) (by with_reducible assumption) ?_ | with_reducible refine ne_sec2 (by with_reducible assumption) (by with_reducible assumption) (by with_reducible assumption) ?_)))
local macro_rules | `(tactic| walk_at "binaryOp Div int int") => `(tactic| (k_here; k_dflt (first | with_reducible refine div_sec1 (by with_reducible assumption) (by with_reducible assumption) ?_ | with_reducible refine div_sec2 (by with_reducible assumption) (by with_reducible assumption) ?_)))
local macro_rules | `(tactic| walk_at "binaryOp BitAnd int int") => `(tactic| (k_here; k_dflt (with_reducible refine' and_as ?ke ?_; (case ke => first | exact band15 (by with_reducible assumption) (by omega) | exact band255 (by with_reducible assumption) (by with_reducible assumption)))))
local macro_rules | `(tactic| walk_at "binaryOp BitOr int int") => `(tactic| (k_here; k_dflt (with_reducible refine' or_as ?ke ?_; (case ke => exact bor48 (by with_reducible assumption) (by omega)))))
local macro_rules | `(tactic| walk_at "call type:bytes") => `(tactic| (k_here; (with_reducible show wpAny _ _ (call (Value.type "bytes") [Value.ref _]) _ _ _); k_dflt (refine' KBa.make_K ?kbaF ?kbaN ?kbah ?kbal ?kbai ?kbar ?kban ?_; (case kbaF => k_asm); (case kbaN => k_asm); (case kbah => rfl); (case kbal => kmk_list); (case kbai => exact ints3); (case kbar => exact fcd_all (by with_reducible assumption) (by with_reducible assumption) (by with_reducible assumption) (by with_reducible assumption) (by with_reducible assumption)); (case kban => exact Nat.le_of_ble_eq_true rfl)); intro _ _ _ F' N' kbaIn))
local macro_rules | `(tactic| walk_at "compareOp Eq ref ref") => `(tactic| (k_here; (with_reducible rename News _ _ _ _ => nD); k_dflt (refine' eq_t5 nD ?za ?zb ?z0 ?z1 ?z2 ?z3 ?z4 ?zu ?_; (case za => k_mem); (case zb => k_mem); (case z0 => first | rfl | assumption); (case z1 => first | rfl | assumption); (case z2 => first | rfl | assumption); (case z3 => first | rfl | assumption); (case z4 => first | rfl | assumption); (case zu => first | decide | k_units))))
local macro_rules | `(tactic| walk_at "callWith ref") => `(tactic| (k_here; (with_reducible show wpAny _ _ (callWith _ (Value.ref 119) _ _ _) _ _ _); k_dflt (first | (refine' callWith_KW0 ?k1 ?k2 ?k3 ?_; (case k1 => k_asm); (case k2 => k_is); (case k3 => exact rfl); k_whole) | (refine' callWith_KW ?k1 ?k2 ?k3 ?_; (case k1 => k_asm); (case k2 => k_is); (case k3 => exact rfl); k_whole))))
local macro_rules | `(tactic| walk_at "newTuple") => `(tactic| (k_here; k_dflt (refine' kup_newTuple ?F ?N ?_ ?z; (case F => k_asm); (case N => k_asm); (case z => kmk_size)); intro D' h' F' N' l1; (try k_lt l1)))
set_option maxRecDepth 100000 in
set_option maxHeartbeats 8000000 in
theorem law_holds : PySem.Challenge.rw_ff0001_01.Holds := by
  refine Mine.hd ?_
  k_go0
  (all_goals try k_fold)
  repeat' ((fail_if_success (with_reducible show wpAny _ _ (eval (Expr.BoolOp _ _ _) _) _ _ _)); (first | (k_unfold; (try dsimp only)) | (k_end; wrow_close) | walk1 | (dsimp only; walk1) | (leave1; walk_say "STEP leave1"; try dsimp only)))
  rename Fr _ _ _ _ => hF
  rename News _ _ _ _ => hN
  rename Heap.IsList _ _ _ => hIL
  rename IntsAre _ _ => hIA
  refine told_join hF hN ?z1 ?z2
  case z1 =>
    iterate 4 walk1
    all_goals (repeat (first | walk1 | (dsimp only; walk1)))
    all_goals (rename Fr _ _ _ _ => fE; rename News _ _ _ _ => nE)
    · exact ⟨_, _, _, [], _, _, rfl, rfl, fE, nE, Or.inl hIL, hIA, by assumption, by omega, fun _ h => nomatch h⟩
    · rename _ < _ => lE
      refine ⟨_, _, [2, 1, 3], _ :: [], _, _, rfl, rfl, fE, news_cons nE (.tail _ (.head _)) (news_cons nE (.head _) (fun _ h => nomatch h)), Or.inr ⟨_, .head _⟩, IntsAre.cons _ _ (IntsAre.cons _ _ (IntsAre.cons _ _ IntsAre.nil)), by decide, by decide, ?_⟩
      intro p hp
      rcases List.mem_cons.mp hp with rfl | hp
      · exact Nat.ne_of_gt lE
      · nomatch hp
  case z2 =>
    clear hF hN
    intro m l vs ns rest hA tkA fA nA tA iA l1A l2A oA
    repeat' ((fail_if_success (with_reducible show wpAny _ _ (pyIter (Value.ref _)) (fun it s₂ => LoopAtV _ _ _ _ _ _ _ _ _ it s₂) _ _)); (first | (k_unfold; (try dsimp only)) | (k_end; wrow_close) | walk1 | (dsimp only; walk1) | (leave1; walk_say "STEP leave1"; try dsimp only)))
    rename Top _ _ _ _ _ _ => T0
    rename Below _ _ _ _ => K0
    rename Frag.In _ _ => X0
    rename IsRange _ _ _ _ _ _ _ _ => rgX
    rename Fr _ _ _ _ => lF'
    rename News _ _ _ _ => lN'
    with_unfolding_all refine' turns ["ahead", "first", "second", "third", "body", "octets", "due", "pdu", "pause"] (by rfl) (by rfl) rgX ?y0 ?y1 lF' lN' sub_drop2 ?yc ?yk ?yl ?ya oA ?turn ?done
    case y0 => assumption
    case y1 => assumption
    case yc => assumption
    case yk => decide
    case yl => decide
    case ya => k_all
    case turn =>
      clear rgX lF' lN'
      intro i k tI tK cell cv u hB tkB rest' hsub hra hrc hcell hk0 hk1 fB nB
      have tB := told_in tA hsub
      clear tA
      repeat' ((fail_if_success (with_reducible show wpAny _ _ (execs (Stmt.Assign [Expr.Name (Str.ofString "first") _] _ _ :: _) _) _ _ _)); (first | (k_unfold; (try dsimp only)) | (k_end; wrow_close) | walk1 | (dsimp only; walk1) | (leave1; walk_say "STEP leave1"; try dsimp only)))
      generalize hz1 : List.getD _ _ _ = z1 at *
      obtain ⟨z1lo, z1hi⟩ := gz (hi := 65) hz1 (by decide) (by (repeat (refine List.forall_mem_cons.mpr ⟨by omega, ?_⟩)); exact fun _ h => nomatch h)
      clear hz1
      repeat' ((fail_if_success (with_reducible show wpAny _ _ (execs (Stmt.Assign [Expr.Name (Str.ofString "second") _] _ _ :: _) _) _ _ _)); (first | (k_unfold; (try dsimp only)) | (k_end; wrow_close) | walk1 | (dsimp only; walk1) | (leave1; walk_say "STEP leave1"; try dsimp only)))
      generalize hz2 : List.getD _ _ _ = z2 at *
      obtain ⟨z2lo, z2hi⟩ := gz (hi := 256) hz2 (by decide) (by (repeat (refine List.forall_mem_cons.mpr ⟨by omega, ?_⟩)); exact fun _ h => nomatch h)
      clear hz2
      repeat' ((fail_if_success (with_reducible show wpAny _ _ (execs (Stmt.Assign [Expr.Name (Str.ofString "third") _] _ _ :: _) _) _ _ _)); (first | (k_unfold; (try dsimp only)) | (k_end; wrow_close) | walk1 | (dsimp only; walk1) | (leave1; walk_say "STEP leave1"; try dsimp only)))
      generalize hz3 : List.getD _ _ _ = z3 at *
      obtain ⟨z3lo, z3hi⟩ := gz (hi := 256) hz3 (by decide) (by (repeat (refine List.forall_mem_cons.mpr ⟨by omega, ?_⟩)); exact fun _ h => nomatch h)
      clear hz3
      repeat' ((fail_if_success (with_reducible show wpAny _ _ (execs (Stmt.Assign [Expr.Name (Str.ofString "body") _] _ _ :: _) _) _ _ _)); (first | (k_unfold; (try dsimp only)) | (k_end; wrow_close) | walk1 | (dsimp only; walk1) | (leave1; walk_say "STEP leave1"; try dsimp only)))
      generalize hz4 : List.getD _ _ _ = z4 at *
      obtain ⟨z4lo, z4hi⟩ := gz (hi := 256) hz4 (by decide) (by (repeat (refine List.forall_mem_cons.mpr ⟨by omega, ?_⟩)); exact fun _ h => nomatch h)
      clear hz4
      rename News _ _ _ _ => nX
      replace nX := keep6 nX
      repeat' ((fail_if_success (with_reducible show wpAny _ _ (exec (Stmt.If _ _ _ _) _) _ _ _)); (first | (k_unfold; (try dsimp only)) | (k_end; wrow_close) | walk1 | (dsimp only; walk1) | (leave1; walk_say "STEP leave1"; try dsimp only)))
      rename Fr _ _ _ _ => fJ
      rename News _ _ _ _ => nJ
      refine if_join fJ nJ sub_tail2 ?j1 ?j2
      case j1 =>
        repeat' (first | walk1 | (dsimp only; walk1))
        all_goals (rename Fr _ _ _ _ => fE; rename News _ _ _ _ => nE)
        all_goals (refine' body_end fE ?e1 ?e2 nE ?hN ?o ?hn ?b1 ?b2 ?l1 ?l2 ?l3; (case e1 => exact if_pos rfl); (case e2 => first | exact fun _ _ => rfl | exact fun z hz => by simp only [if_neg hz]); (case hN => refine List.forall_mem_cons.mpr ⟨by k_mem, List.forall_mem_cons.mpr ⟨by k_mem, List.forall_mem_cons.mpr ⟨by k_mem, by kst_mem⟩⟩⟩); (case o => with_reducible assumption); (case hn => decide); (case b1 => omega); (case b2 => omega); (case l1 => omega); (case l2 => omega); (case l3 => tbn_find))
      case j2 =>
        clear fJ nJ
        intro B ws hC tkC kC tC fC nC oC kC1 kC2 ltC
        repeat' ((fail_if_success (with_reducible show wpAny _ _ (execs (Stmt.Assign [Expr.Tuple _ _ _] _ _ :: _) _) _ _ _)); (first | (k_unfold; (try dsimp only)) | (k_end; wrow_close) | walk1 | (dsimp only; walk1) | (leave1; walk_say "STEP leave1"; try dsimp only)))
        rename News _ _ _ _ => nX
        replace nX := keep6 nX
        rename Octs _ (Int.toNat z1) => oZ
        obtain ⟨os, iZ, lZ, bZ⟩ := oZ
        repeat' ((fail_if_success (with_reducible show wpAny _ _ (call (Value.ref 139) _) _ _ _)); (first | (k_unfold; (try dsimp only)) | (k_end; wrow_close) | walk1 | (dsimp only; walk1) | (leave1; walk_say "STEP leave1"; try dsimp only)))
        with_reducible rename News _ _ _ _ => nD
        refine' read_ok _ _ _ _ _ _ _ _ _ _ _ _ _ _ _ _ _ _ _ _ _ _ _ _ ?zB ?zF ?zX ?zN ?zT ?zk ?zI ?zg ?zh ?za ?zb ?zp ?zq ?znone ?zsf ?zff ?zcf ?zfc
        (case zB => k_asm)
        (case zF => k_asm)
        (case zX => k_asm)
        (case zN => (refine' news_tail nD (Del.sub ?zs); (case zs => (repeat (first | exact Del.head | apply Del.tail)))))
        (case zT => k_asm)
        (case zk => rfl)
        (case zI => with_reducible assumption)
        (case zg => omega)
        (case zh => with_reducible assumption)
        (case za => omega)
        (case zb => omega)
        (case zp => decide)
        (case zq => decide)
        case znone =>
          intro due hR tkR fR nR
          clear nD
          repeat' ((fail_if_success (with_reducible show wpAny _ _ (call (Value.ref 119) _ _) _ _ _)); (first | (k_unfold; (try dsimp only)) | (k_end; wrow_close) | walk1 | (dsimp only; walk1) | (leave1; walk_say "STEP leave1"; try dsimp only)))
          with_reducible rename News _ _ _ _ => nD
          refine' can_ok _ _ _ _ _ _ _ _ _ _ _ _ _ _ _ _ _ _ _ _ ?zB ?zF ?zX nD ?zT ?zk ?zp ?zq ?_
          (case zB => k_asm)
          (case zF => k_asm)
          (case zX => k_asm)
          (case zT => k_asm)
          (case zk => rfl)
          (case zp => decide)
          (case zq => decide)
          intro mx dx s0 s1 s3 s4 s5 hM tkM fM nM ltM alM
          clear nD
          repeat' ((fail_if_success (with_reducible show wpAny _ _ (call (Value.ref 86) _) _ _ _)); (first | (k_unfold; (try dsimp only)) | (k_end; wrow_close) | walk1 | (dsimp only; walk1) | (leave1; walk_say "STEP leave1"; try dsimp only)))
          with_reducible rename News _ _ _ _ => nD
          refine' pdu_ok _ _ _ _ _ _ _ _ _ _ _ _ _ _ _ _ _ _ _ _ _ _ _ _ _ _ _ _ _ _ _ trivial ?zB ?zF ?zX nD ?zT ?zk ?zI ?zg ?zh ?za ?zb ?zp ?zq ?pra ?psf ?pff ?pcf ?pfc
          (case zB => k_asm)
          (case zF => k_asm)
          (case zX => k_asm)
          (case zT => k_asm)
          (case zk => rfl)
          (case zI => exact KBa.ints_make (by with_reducible assumption))
          (case zg => omega)
          (case zh => with_reducible assumption)
          (case za => omega)
          (case zb => omega)
          (case zp => decide)
          (case zq => decide)
          case psf => exact fun _ _ _ _ e1 => nomatch (due.symm.trans e1)
          case pff => exact fun _ _ _ _ e1 => nomatch (due.symm.trans e1)
          case pcf => exact fun _ _ _ e1 => nomatch (due.symm.trans e1)
          case pfc => exact fun _ _ _ _ e1 => nomatch (due.symm.trans e1)
          case pra =>
            intro _ gP hP eP tkP fP uP rP
            refine caught_C K0 fP uP rP (by k_asm) ?_ (T0.free _ (by decide +kernel) (by decide +kernel) (by decide +kernel) (by decide +kernel) (by decide +kernel))
            clear nD
            intro hE fE nE
            repeat' (first | walk1 | (dsimp only; walk1))
            change TurnEnd _ _ _ _ _ _ _ _ _ _ _ _ Flow.cont _
            refine' (turn_end fE nE ?q1 ?q2 ?q3 ?q4 ?q5).2
            case q1 => exact List.forall_mem_cons.mpr ⟨by k_mem, List.forall_mem_cons.mpr ⟨by k_mem, by kst_mem⟩⟩
            case q2 => with_reducible assumption
            case q3 =>
              intro z hz hs
              obtain ⟨a1, a2, a3, a4, a5, a6, a7, a8, a9⟩ := not_stored hs
              simp only [if_neg hz, if_neg a1, if_neg a2, if_neg a3, if_neg a4, if_neg a5, if_neg a6, if_neg a7, if_neg a8, if_neg a9, hs, Bool.false_eq_true, if_false]
            case q4 => omega
            case q5 => omega
        case zsf =>
          intro kk len data long due hkk hR tkR tp dl dvs t1 t2 n1 n2 fR nR iD
          clear nD
          repeat' ((fail_if_success (with_reducible show wpAny _ _ (call (Value.ref 119) _ _) _ _ _)); (first | (k_unfold; (try dsimp only)) | (k_end; wrow_close) | walk1 | (dsimp only; walk1) | (leave1; walk_say "STEP leave1"; try dsimp only)))
          with_reducible rename News _ _ _ _ => nD
          refine' can_ok _ _ _ _ _ _ _ _ _ _ _ _ _ _ _ _ _ _ _ _ ?zB ?zF ?zX nD ?zT ?zk ?zp ?zq ?_
          (case zB => k_asm)
          (case zF => k_asm)
          (case zX => k_asm)
          (case zT => k_asm)
          (case zk => rfl)
          (case zp => decide)
          (case zq => decide)
          intro mx dx s0 s1 s3 s4 s5 hM tkM fM nM ltM alM
          clear nD
          repeat' ((fail_if_success (with_reducible show wpAny _ _ (call (Value.ref 86) _) _ _ _)); (first | (k_unfold; (try dsimp only)) | (k_end; wrow_close) | walk1 | (dsimp only; walk1) | (leave1; walk_say "STEP leave1"; try dsimp only)))
          with_reducible rename News _ _ _ _ => nD
          refine' pdu_ok _ _ _ _ _ _ _ _ _ _ _ _ _ _ _ _ _ _ _ _ _ _ _ _ _ _ _ _ _ _ _ trivial ?zB ?zF ?zX nD ?zT ?zk ?zI ?zg ?zh ?za ?zb ?zp ?zq ?pra ?psf ?pff ?pcf ?pfc
          (case zB => k_asm)
          (case zF => k_asm)
          (case zX => k_asm)
          (case zT => k_asm)
          (case zk => rfl)
          (case zI => exact KBa.ints_make (by with_reducible assumption))
          (case zg => omega)
          (case zh => with_reducible assumption)
          (case za => omega)
          (case zb => omega)
          (case zp => decide)
          (case zq => decide)
          case pff => exact fun _ _ _ _ e1 => nomatch (due.symm.trans e1)
          case pcf => exact fun _ _ _ e1 => nomatch (due.symm.trans e1)
          case pfc => exact fun _ _ _ _ e1 => nomatch (due.symm.trans e1)
          case pra => exact fun e1 => nomatch (e1.symm.trans due)
          case psf =>
            intro k2 len2 data2 long2 e1 hk2 hP tkP xP dP bd u1 u2 u3 u4 u5 u6 u7 u8 fP nP iP
            have e2 := due.symm.trans e1
            injection e2 with e2
            injection e2 with e3 e4 e5
            subst e3 e4 e5
            have lZi : (os.length : Int) = z1 := by omega
            rw [lZi] at nP
            clear nD e1
            subst hkk
            subst hk2
            have dl4 := dl_le (dl_sf due) lZ (by omega)
            repeat' (first | walk1 | (dsimp only; walk1))
            all_goals first
              | (exfalso; rename _ ≠ _ => ne9; exact absurd rfl ne9)
              | (rename Fr _ _ _ _ => fE
                 rename News _ _ _ _ => nE
                 change TurnEnd _ _ _ _ _ _ _ _ _ _ _ _ Flow.next _
                 refine' (turn_end fE nE ?q1 ?q2 ?q3 ?q4 ?q5).1
                 case q1 => exact List.forall_mem_cons.mpr ⟨by k_mem, List.forall_mem_cons.mpr ⟨by k_mem, by kst_mem⟩⟩
                 case q2 => with_reducible assumption
                 case q3 =>
                   intro z hz hs
                   obtain ⟨a1, a2, a3, a4, a5, a6, a7, a8, a9⟩ := not_stored hs
                   simp only [if_neg hz, if_neg a1, if_neg a2, if_neg a3, if_neg a4, if_neg a5, if_neg a6, if_neg a7, if_neg a8, if_neg a9, hs, Bool.false_eq_true, if_false]
                 case q4 => omega
                 case q5 => omega)
        case zff =>
          intro kk len data long due hkk hR tkR tp dl dvs t1 t2 n1 n2 fR nR iD
          clear nD
          repeat' ((fail_if_success (with_reducible show wpAny _ _ (call (Value.ref 119) _ _) _ _ _)); (first | (k_unfold; (try dsimp only)) | (k_end; wrow_close) | walk1 | (dsimp only; walk1) | (leave1; walk_say "STEP leave1"; try dsimp only)))
          with_reducible rename News _ _ _ _ => nD
          refine' can_ok _ _ _ _ _ _ _ _ _ _ _ _ _ _ _ _ _ _ _ _ ?zB ?zF ?zX nD ?zT ?zk ?zp ?zq ?_
          (case zB => k_asm)
          (case zF => k_asm)
          (case zX => k_asm)
          (case zT => k_asm)
          (case zk => rfl)
          (case zp => decide)
          (case zq => decide)
          intro mx dx s0 s1 s3 s4 s5 hM tkM fM nM ltM alM
          clear nD
          repeat' ((fail_if_success (with_reducible show wpAny _ _ (call (Value.ref 86) _) _ _ _)); (first | (k_unfold; (try dsimp only)) | (k_end; wrow_close) | walk1 | (dsimp only; walk1) | (leave1; walk_say "STEP leave1"; try dsimp only)))
          with_reducible rename News _ _ _ _ => nD
          refine' pdu_ok _ _ _ _ _ _ _ _ _ _ _ _ _ _ _ _ _ _ _ _ _ _ _ _ _ _ _ _ _ _ _ trivial ?zB ?zF ?zX nD ?zT ?zk ?zI ?zg ?zh ?za ?zb ?zp ?zq ?pra ?psf ?pff ?pcf ?pfc
          (case zB => k_asm)
          (case zF => k_asm)
          (case zX => k_asm)
          (case zT => k_asm)
          (case zk => rfl)
          (case zI => exact KBa.ints_make (by with_reducible assumption))
          (case zg => omega)
          (case zh => with_reducible assumption)
          (case za => omega)
          (case zb => omega)
          (case zp => decide)
          (case zq => decide)
          case psf => exact fun _ _ _ _ e1 => nomatch (due.symm.trans e1)
          case pcf => exact fun _ _ _ e1 => nomatch (due.symm.trans e1)
          case pfc => exact fun _ _ _ _ e1 => nomatch (due.symm.trans e1)
          case pra => exact fun e1 => nomatch (e1.symm.trans due)
          case pff =>
            intro k2 len2 data2 long2 e1 hk2 hP tkP xP dP bd u1 u2 u3 u4 u5 u6 u7 u8 fP nP iP
            have e2 := due.symm.trans e1
            injection e2 with e2
            injection e2 with e3 e4 e5
            subst e3 e4 e5
            have lZi : (os.length : Int) = z1 := by omega
            rw [lZi] at nP
            clear nD e1
            subst hkk
            subst hk2
            have dl4 := dl_le (dl_ff due) lZ (by omega)
            repeat' (first | walk1 | (dsimp only; walk1))
            all_goals first
              | (exfalso; rename _ ≠ _ => ne9; exact absurd rfl ne9)
              | (rename Fr _ _ _ _ => fE
                 rename News _ _ _ _ => nE
                 change TurnEnd _ _ _ _ _ _ _ _ _ _ _ _ Flow.next _
                 refine' (turn_end fE nE ?q1 ?q2 ?q3 ?q4 ?q5).1
                 case q1 => exact List.forall_mem_cons.mpr ⟨by k_mem, List.forall_mem_cons.mpr ⟨by k_mem, by kst_mem⟩⟩
                 case q2 => with_reducible assumption
                 case q3 =>
                   intro z hz hs
                   obtain ⟨a1, a2, a3, a4, a5, a6, a7, a8, a9⟩ := not_stored hs
                   simp only [if_neg hz, if_neg a1, if_neg a2, if_neg a3, if_neg a4, if_neg a5, if_neg a6, if_neg a7, if_neg a8, if_neg a9, hs, Bool.false_eq_true, if_false]
                 case q4 => omega
                 case q5 => omega)
        case zcf =>
          intro kk seq data due hkk hR tkR tp dl dvs t1 t2 n1 n2 fR nR iD
          clear nD
          repeat' ((fail_if_success (with_reducible show wpAny _ _ (call (Value.ref 119) _ _) _ _ _)); (first | (k_unfold; (try dsimp only)) | (k_end; wrow_close) | walk1 | (dsimp only; walk1) | (leave1; walk_say "STEP leave1"; try dsimp only)))
          with_reducible rename News _ _ _ _ => nD
          refine' can_ok _ _ _ _ _ _ _ _ _ _ _ _ _ _ _ _ _ _ _ _ ?zB ?zF ?zX nD ?zT ?zk ?zp ?zq ?_
          (case zB => k_asm)
          (case zF => k_asm)
          (case zX => k_asm)
          (case zT => k_asm)
          (case zk => rfl)
          (case zp => decide)
          (case zq => decide)
          intro mx dx s0 s1 s3 s4 s5 hM tkM fM nM ltM alM
          clear nD
          repeat' ((fail_if_success (with_reducible show wpAny _ _ (call (Value.ref 86) _) _ _ _)); (first | (k_unfold; (try dsimp only)) | (k_end; wrow_close) | walk1 | (dsimp only; walk1) | (leave1; walk_say "STEP leave1"; try dsimp only)))
          with_reducible rename News _ _ _ _ => nD
          refine' pdu_ok _ _ _ _ _ _ _ _ _ _ _ _ _ _ _ _ _ _ _ _ _ _ _ _ _ _ _ _ _ _ _ trivial ?zB ?zF ?zX nD ?zT ?zk ?zI ?zg ?zh ?za ?zb ?zp ?zq ?pra ?psf ?pff ?pcf ?pfc
          (case zB => k_asm)
          (case zF => k_asm)
          (case zX => k_asm)
          (case zT => k_asm)
          (case zk => rfl)
          (case zI => exact KBa.ints_make (by with_reducible assumption))
          (case zg => omega)
          (case zh => with_reducible assumption)
          (case za => omega)
          (case zb => omega)
          (case zp => decide)
          (case zq => decide)
          case psf => exact fun _ _ _ _ e1 => nomatch (due.symm.trans e1)
          case pff => exact fun _ _ _ _ e1 => nomatch (due.symm.trans e1)
          case pfc => exact fun _ _ _ _ e1 => nomatch (due.symm.trans e1)
          case pra => exact fun e1 => nomatch (e1.symm.trans due)
          case pcf =>
            intro k2 seq2 data2 e1 hk2 hP tkP xP dP bd u1 u2 u3 u4 u5 u6 u7 u8 fP nP iP
            have e2 := due.symm.trans e1
            injection e2 with e2
            injection e2 with e3 e4
            subst e3 e4
            have lZi : (os.length : Int) = z1 := by omega
            rw [lZi] at nP
            clear nD e1
            subst hkk
            subst hk2
            have dl4 := dl_le (dl_cf due) lZ (by omega)
            repeat' (first | walk1 | (dsimp only; walk1))
            all_goals first
              | (exfalso; rename _ ≠ _ => ne9; exact absurd rfl ne9)
              | (rename Fr _ _ _ _ => fE
                 rename News _ _ _ _ => nE
                 change TurnEnd _ _ _ _ _ _ _ _ _ _ _ _ Flow.next _
                 refine' (turn_end fE nE ?q1 ?q2 ?q3 ?q4 ?q5).1
                 case q1 => exact List.forall_mem_cons.mpr ⟨by k_mem, List.forall_mem_cons.mpr ⟨by k_mem, by kst_mem⟩⟩
                 case q2 => with_reducible assumption
                 case q3 =>
                   intro z hz hs
                   obtain ⟨a1, a2, a3, a4, a5, a6, a7, a8, a9⟩ := not_stored hs
                   simp only [if_neg hz, if_neg a1, if_neg a2, if_neg a3, if_neg a4, if_neg a5, if_neg a6, if_neg a7, if_neg a8, if_neg a9, hs, Bool.false_eq_true, if_false]
                 case q4 => omega
                 case q5 => omega)
        case zfc =>
          intro kk bs st fs due hkk hR tkR tp dl dvs t1 t2 t3 t4 n1 n2 fR nR iD
          clear nD
          repeat' ((fail_if_success (with_reducible show wpAny _ _ (call (Value.ref 119) _ _) _ _ _)); (first | (k_unfold; (try dsimp only)) | (k_end; wrow_close) | walk1 | (dsimp only; walk1) | (leave1; walk_say "STEP leave1"; try dsimp only)))
          with_reducible rename News _ _ _ _ => nD
          refine' can_ok _ _ _ _ _ _ _ _ _ _ _ _ _ _ _ _ _ _ _ _ ?zB ?zF ?zX nD ?zT ?zk ?zp ?zq ?_
          (case zB => k_asm)
          (case zF => k_asm)
          (case zX => k_asm)
          (case zT => k_asm)
          (case zk => rfl)
          (case zp => decide)
          (case zq => decide)
          intro mx dx s0 s1 s3 s4 s5 hM tkM fM nM ltM alM
          clear nD
          repeat' ((fail_if_success (with_reducible show wpAny _ _ (call (Value.ref 86) _) _ _ _)); (first | (k_unfold; (try dsimp only)) | (k_end; wrow_close) | walk1 | (dsimp only; walk1) | (leave1; walk_say "STEP leave1"; try dsimp only)))
          with_reducible rename News _ _ _ _ => nD
          refine' pdu_ok _ _ _ _ _ _ _ _ _ _ _ _ _ _ _ _ _ _ _ _ _ _ _ _ _ _ _ _ _ _ _ trivial ?zB ?zF ?zX nD ?zT ?zk ?zI ?zg ?zh ?za ?zb ?zp ?zq ?pra ?psf ?pff ?pcf ?pfc
          (case zB => k_asm)
          (case zF => k_asm)
          (case zX => k_asm)
          (case zT => k_asm)
          (case zk => rfl)
          (case zI => exact KBa.ints_make (by with_reducible assumption))
          (case zg => omega)
          (case zh => with_reducible assumption)
          (case za => omega)
          (case zb => omega)
          (case zp => decide)
          (case zq => decide)
          case psf => exact fun _ _ _ _ e1 => nomatch (due.symm.trans e1)
          case pff => exact fun _ _ _ _ e1 => nomatch (due.symm.trans e1)
          case pcf => exact fun _ _ _ e1 => nomatch (due.symm.trans e1)
          case pra => exact fun e1 => nomatch (e1.symm.trans due)
          case pfc =>
            intro k2 bs2 st2 fs2 e1 hk2 hP tkP xP dP bd u1 u2 u3 u4 u5 u6 u7 u8 fP nP iP
            have e2 := due.symm.trans e1
            injection e2 with e2
            injection e2 with e3 e4 e5
            subst e3 e4 e5
            have lZi : (os.length : Int) = z1 := by omega
            rw [lZi] at nP
            clear nD e1
            subst hkk
            subst hk2
            obtain ⟨stlo, sthi⟩ := st_bd due bZ
            repeat' (first | walk1 | (dsimp only; walk1))
            all_goals first
              | (exfalso; rename _ ≠ _ => ne9; exact absurd rfl ne9)
              | (exfalso; rename Float64.isInf _ = true => if9; first | (rw [sec_fin1 stlo sthi] at if9; cases if9; done) | (rw [sec_fin2 stlo sthi] at if9; cases if9; done))
              | (rename Fr _ _ _ _ => fE
                 rename News _ _ _ _ => nE
                 change TurnEnd _ _ _ _ _ _ _ _ _ _ _ _ Flow.next _
                 refine' (turn_end fE nE ?q1 ?q2 ?q3 ?q4 ?q5).1
                 case q1 => exact List.forall_mem_cons.mpr ⟨by k_mem, List.forall_mem_cons.mpr ⟨by k_mem, by kst_mem⟩⟩
                 case q2 => with_reducible assumption
                 case q3 =>
                   intro z hz hs
                   obtain ⟨a1, a2, a3, a4, a5, a6, a7, a8, a9⟩ := not_stored hs
                   simp only [if_neg hz, if_neg a1, if_neg a2, if_neg a3, if_neg a4, if_neg a5, if_neg a6, if_neg a7, if_neg a8, if_neg a9, hs, Bool.false_eq_true, if_false]
                 case q4 => omega
                 case q5 => omega)
    case done =>
      clear rgX lF' lN'
      intro k tK cell cv u hB tkB hk0 hk1 hcell fB nB
      dsimp only
      repeat' ((fail_if_success (with_reducible show wpAny _ _ (execs (Stmt.Assign [Expr.Name (Str.ofString "laid") _] _ _ :: _) _) _ _ _)); (first | (k_unfold; (try dsimp only)) | (k_end; wrow_close) | walk1 | (dsimp only; walk1) | (leave1; walk_say "STEP leave1"; try dsimp only)))
      generalize hz5 : List.getD _ _ _ = z5 at *
      have hp5 := gp hz5 (by omega) (by omega)
      clear hz5
      have hp5l : 0 ≤ z5 := by omega
      have hp5h : z5 < 256 := by omega
      repeat' ((fail_if_success (with_reducible show wpAny _ _ (call (Value.ref 119) _ _) _ _ _)); (first | walk1 | (dsimp only; walk1)))
      with_reducible rename News _ _ _ _ => nD
      refine' can_ok _ _ _ _ _ _ _ _ _ _ _ _ _ _ _ _ _ _ _ _ ?zB ?zF ?zX nD ?zT ?zk ?zp ?zq ?_
      (case zB => k_asm)
      (case zF => k_asm)
      (case zX => k_asm)
      (case zT => k_asm)
      (case zk => rfl)
      (case zp => decide)
      (case zq => decide)
      intro mx dx s0 s1 s3 s4 s5 hM tkM fM nM ltM alM
      clear nD
      repeat' ((fail_if_success (with_reducible show wpAny _ _ (call (Value.ref 86) _) _ _ _)); (first | walk1 | (dsimp only; walk1)))
      with_reducible rename News _ _ _ _ => nD
      refine' pdu_fcd _ _ _ _ _ _ _ _ _ _ _ _ _ _ _ _ _ _ _ _ _ _ 0 0 _ _ _ _ _ _ _ ?zcond ?zB ?zF ?zX nD ?zT ?zk ?zI ?zg ?zh ?za ?zb ?zp ?zq ?pra ?psf ?pff ?pcf ?pfc
      (case zB => k_asm)
      (case zF => k_asm)
      (case zX => k_asm)
      (case zT => k_asm)
      (case zk => rfl)
      (case zI => exact KBa.ints_make (by with_reducible assumption))
      (case zcond => exact fcd_kind (by with_reducible assumption) (by with_reducible assumption))
      (case zg => exact Nat.le_of_ble_eq_true rfl)
      (case zh => exact fcd_all (by with_reducible assumption) (by with_reducible assumption) (by with_reducible assumption) (by with_reducible assumption) (by with_reducible assumption))
      (case za => decide)
      (case zb => decide)
      (case zp => decide)
      (case zq => decide)
      case psf => exact fun _ _ _ _ e1 => nomatch (Eq.trans (Eq.symm (due_fcd (by with_reducible assumption) (by with_reducible assumption) (by with_reducible assumption) (by with_reducible assumption) (by with_reducible assumption))) e1)
      case pff => exact fun _ _ _ _ e1 => nomatch (Eq.trans (Eq.symm (due_fcd (by with_reducible assumption) (by with_reducible assumption) (by with_reducible assumption) (by with_reducible assumption) (by with_reducible assumption))) e1)
      case pcf => exact fun _ _ _ e1 => nomatch (Eq.trans (Eq.symm (due_fcd (by with_reducible assumption) (by with_reducible assumption) (by with_reducible assumption) (by with_reducible assumption) (by with_reducible assumption))) e1)
      case pra => exact fun e1 => nomatch (Eq.trans (Eq.symm (due_fcd (by with_reducible assumption) (by with_reducible assumption) (by with_reducible assumption) (by with_reducible assumption) (by with_reducible assumption))) e1)
      case pfc =>
        intro k2 bs2 st2 fs2 e1 hk2 hP tkP xP dP bd u1 u2 u3 u4 u5 u6 u7 u8 fP nP iP
        have e2 := Eq.trans (Eq.symm (due_fcd (by with_reducible assumption) (by with_reducible assumption) (by with_reducible assumption) (by with_reducible assumption) (by with_reducible assumption))) e1
        injection e2 with e2
        injection e2 with e3 e4 e5
        subst e3 e4 e5
        subst hk2
        clear nD e1
        repeat' (first | walk1 | (dsimp only; walk1))
        all_goals k_steps
end Mine
end S_Law1

set_option maxRecDepth 100000 in
set_option maxHeartbeats 8000000 in
theorem PySem.Challenge.cw_ff0001_01_holds : PySem.Challenge.rw_ff0001_01.Holds := by
  exact Mine.law_holds
