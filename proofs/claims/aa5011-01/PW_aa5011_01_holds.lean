import PyProof.Rows.All
import Wide.All
import OpenK.AllK
import Wide.FinOn
import PySem.Challenge.RW_aa5011_01
open PySem PySem.W PyProof.Rows PySem.Calls
set_option Elab.async false
set_option maxRecDepth 100000
set_option maxHeartbeats 8000000
set_option linter.unusedVariables false
namespace Mine
/-! Hd -/
open_top hd for PySem.Challenge.rw_aa5011_01
/-! Base -/
abbrev Led := List (Addr × Obj)
abbrev Mp := Str → Option Value
/-- bits of an int, as an int -/
abbrev bI (x : Int) : Int := (Builtin.Int.intBits x : Int)
@[irreducible] def shr (a n : Int) : Int := a.fdiv (2 ^ n.toNat)
@[irreducible] def shl (a n : Int) : Int := a * 2 ^ n.toNat
@[irreducible] def pw (a n : Int) : Int := a ^ n.toNat
theorem shr_def (a n : Int) : shr a n = a.fdiv (2 ^ n.toNat) := by unfold shr; rfl
theorem shl_def (a n : Int) : shl a n = a * 2 ^ n.toNat := by unfold shl; rfl
theorem pw_def (a n : Int) : pw a n = a ^ n.toNat := by unfold pw; rfl
section
variable {prog : Program} {w : World} {A : Around} {E : Value → Shared → Prop} {s : Shared} {a n b : Int} {t u : Tok} {Q : Value → Shared → Prop}
theorem r_shr (hn : 0 ≤ n) (h : Q (.int (shr a n) s.toks) { s with toks := s.toks + 1 }) : wpAny (model prog w) A (binaryOp .RShift (.int a t) (.int n u)) Q E s := by
  rw [shr_def] at h; exact rshift_int hn h
theorem r_ishr (hn : 0 ≤ n) (h : Q (.int (shr a n) s.toks) { s with toks := s.toks + 1 }) : wpAny (model prog w) A (inplaceOp .RShift (.int a t) (.int n u)) Q E s := by
  rw [shr_def] at h; exact irshift_int hn h
theorem r_shl (hn : 0 ≤ n) (hb : bI a + n ≤ 100000) (h : Q (.int (shl a n) s.toks) { s with toks := s.toks + 1 }) : wpAny (model prog w) A (binaryOp .LShift (.int a t) (.int n u)) Q E s := by
  rw [shl_def] at h; exact lshift_int hn (by simp only [bI] at hb; omega) h
theorem r_ishl (hn : 0 ≤ n) (hb : bI a + n ≤ 100000) (h : Q (.int (shl a n) s.toks) { s with toks := s.toks + 1 }) : wpAny (model prog w) A (inplaceOp .LShift (.int a t) (.int n u)) Q E s := by
  rw [shl_def] at h; exact ilshift_int hn (by simp only [bI] at hb; omega) h
theorem nopy {b : Int} (hs : bI b ≤ 8000) : Builtin.divisionGoesByPylong a b = false := by
  refine PyProof.noPylong_of_log2 ?_
  unfold bI Builtin.Int.intBits at hs
  split at hs
  · rename_i h0
    rw [show b = 0 by simpa using h0]; decide
  · omega
theorem r_mul (ha : bI a ≤ 100000) (hb : bI b ≤ 100000) (h : Q (.int (a * b) s.toks) { s with toks := s.toks + 1 }) : wpAny (model prog w) A (binaryOp .Mult (.int a t) (.int b u)) Q E s :=
  mul_int h (IntMulOk.of_bits (by unfold bI at ha; omega) (by unfold bI at hb; omega))
theorem r_fdiv (hb : 0 < b) (hs : bI b ≤ 8000) (h : Q (.int (a / b) s.toks) { s with toks := s.toks + 1 }) : wpAny (model prog w) A (binaryOp .FloorDiv (.int a t) (.int b u)) Q E s :=
  floordiv_int (by omega) (by rw [Int.fdiv_eq_ediv_of_nonneg _ (by omega)]; exact h) (Or.inl (nopy hs))
theorem r_and1 (h : Q (.int (a % 2) s.toks) { s with toks := s.toks + 1 }) : wpAny (model prog w) A (binaryOp .BitAnd (.int a t) (.int 1 u)) Q E s := by
  rw [← bitAnd_m1] at h; exact and_int h
end
theorem bI1 : bI 1 = 1 := by decide +kernel
/-- four ints in a tuple -/
abbrev tup4 (c : Nat) (a : Int) (ta : Tok) (b : Int) (tb : Tok) (d : Int) (td : Tok) (e : Int) (te : Tok) : Obj :=
  { cls := .type "tuple", data := .seq #[.int a ta, .int b tb, .int d td, .int e te] c }
abbrev Ret1 (h₀ : Heap) (L : Addr) (m : Mp) (news : Led) (s : Shared) (Q : Value → Shared → Prop) (R : Tok → Value) : Prop :=
  ∀ (t : Tok) (h' : Heap) (tk' : Nat), Fr h₀ L h' m → News h₀ L h' news → Q (R t) { s with heap := h', toks := tk' }
abbrev RetT (h₀ : Heap) (L : Addr) (m : Mp) (news : Led) (s : Shared) (Q : Value → Shared → Prop) (P : Obj → Prop) : Prop :=
  ∀ (D : Addr) (o : Obj) (h' : Heap) (tk' : Nat), P o → Fr h₀ L h' m → News h₀ L h' ((D, o) :: news) → Q (.ref D) { s with heap := h', toks := tk' }
theorem sub_tail {α : Type} {l r : List α} {x : α} (h : ∀ p ∈ l, p ∈ r) : ∀ p ∈ l, p ∈ x :: r := fun p hp => .tail _ (h p hp)
local macro_rules | `(tactic| walk_at "my sub") => `(tactic| first | ((with_reducible repeat' (first | exact fun _ h => h | exact List.mem_cons_self | refine List.forall_mem_cons.mpr ⟨?_, ?_⟩ | refine sub_tail ?_ | refine List.mem_cons_of_mem _ ?_)); done) | kcj_all)
local macro_rules | `(tactic| walk_at "my nn") => `(tactic| (first | assumption | decide | omega))
local macro_rules | `(tactic| walk_at "binaryOp RShift int int") => `(tactic| (with_reducible refine r_shr ?h1 ?_; (case h1 => walk_at "my nn")))
local macro_rules | `(tactic| walk_at "inplaceOp RShift int int") => `(tactic| (with_reducible refine r_ishr ?h1 ?_; (case h1 => walk_at "my nn")))
local macro_rules | `(tactic| walk_at "binaryOp LShift int int") => `(tactic| (with_reducible refine r_shl ?h1 ?h2 ?_; (case h1 => walk_at "my nn"); (case h2 => walk_at "my nn")))
local macro_rules | `(tactic| walk_at "inplaceOp LShift int int") => `(tactic| (with_reducible refine r_ishl ?h1 ?h2 ?_; (case h1 => walk_at "my nn"); (case h2 => walk_at "my nn")))
local macro_rules | `(tactic| walk_at "binaryOp BitAnd int int") => `(tactic| with_reducible refine r_and1 ?_)
local macro_rules | `(tactic| walk_at "my steps") => `(tactic| repeat' (first | (k_unfold; (try dsimp only)) | (walk1 <;> (try dsimp only)) | (leave1; walk_say "STEP leave1"; try dsimp only) | fail "no step"))
local macro_rules | `(tactic| walk_at "binaryOp Mult int int") => `(tactic| (with_reducible refine r_mul ?h1 ?h2 ?_; (case h1 => walk_at "my nn"); (case h2 => walk_at "my nn")))
local macro_rules | `(tactic| walk_at "binaryOp FloorDiv int int") => `(tactic| (with_reducible refine r_fdiv ?h1 ?h2 ?_; (case h1 => walk_at "my nn"); (case h2 => walk_at "my nn")))
/-! M1 -/
/-! trailing zeros, the odd part -/
noncomputable def tz (n : Nat) : Nat := if h : n = 0 ∨ n % 2 = 1 then 0 else tz (n / 2) + 1
termination_by n
decreasing_by omega
noncomputable def od (n : Nat) : Nat := n / 2 ^ tz n
theorem tz_odd {n : Nat} (h : n % 2 = 1) : tz n = 0 := by rw [tz, dif_pos (Or.inr h)]
theorem tz_two {n : Nat} (h : 0 < n) : tz (2 * n) = tz n + 1 := by
  rw [tz, dif_neg (by omega), Nat.mul_div_cancel_left _ (by omega)]
theorem tz_mul {n : Nat} (h : 0 < n) : ∀ t, tz (n * 2 ^ t) = tz n + t
  | 0 => by simp
  | t + 1 => by
    have h1 : 0 < n * 2 ^ t := Nat.mul_pos h (Nat.pow_pos (by omega))
    rw [show n * 2 ^ (t + 1) = 2 * (n * 2 ^ t) by rw [Nat.pow_succ]; ac_rfl, tz_two h1, tz_mul h t]; omega
theorem od_two {n : Nat} (h : 0 < n) : od (2 * n) = od n := by
  unfold od
  rw [tz_two h, Nat.pow_succ, Nat.mul_comm (2 ^ tz n) 2, Nat.mul_div_mul_left _ _ (by omega)]
theorem od_odd {n : Nat} (h : n % 2 = 1) : od n = n := by unfold od; rw [tz_odd h]; simp
theorem od_facts (n : Nat) : 0 < n → od n % 2 = 1 ∧ od n * 2 ^ tz n = n := by
  induction n using Nat.strongRecOn with
  | ind n ih =>
    intro h
    by_cases h1 : n % 2 = 1
    · rw [od_odd h1, tz_odd h1]; simp [h1]
    · have e : n = 2 * (n / 2) := by omega
      have h2 := ih (n / 2) (by omega) (by omega)
      have h3 : 0 < n / 2 := by omega
      rw [e, od_two h3, tz_two h3]
      refine ⟨h2.1, ?_⟩
      rw [Nat.pow_succ, ← Nat.mul_assoc, h2.2]; omega
theorem od_oddness {n : Nat} (h : 0 < n) : od n % 2 = 1 := (od_facts n h).1
theorem od_mul {n : Nat} (h : 0 < n) : od n * 2 ^ tz n = n := (od_facts n h).2
theorem od_pos {n : Nat} (h : 0 < n) : 0 < od n := by have := od_oddness h; omega
theorem od_shift {n : Nat} (h : 0 < n) : ∀ t, od (n * 2 ^ t) = od n
  | 0 => by simp
  | t + 1 => by
    have h1 : 0 < n * 2 ^ t := Nat.mul_pos h (Nat.pow_pos (by omega))
    rw [show n * 2 ^ (t + 1) = 2 * (n * 2 ^ t) by rw [Nat.pow_succ]; ac_rfl, od_two h1, od_shift h t]
theorem od_le {n : Nat} : od n ≤ n := Nat.div_le_self _ _
/-! bits -/
def bl (n : Nat) : Nat := if n = 0 then 0 else n.log2 + 1
theorem bI_eq {x : Int} (h : 0 ≤ x) : bI x = (bl x.toNat : Int) := by
  unfold bI Builtin.Int.intBits bl
  by_cases h0 : x = 0
  · subst h0; rfl
  · have h1 : ¬ (x == 0) = true := by simpa using h0
    have h2 : ¬ x.toNat = 0 := by omega
    rw [if_neg h1, if_neg h2]
    have : x.natAbs = x.toNat := by omega
    rw [this]
theorem bI_nat (n : Nat) : bI (n : Int) = (bl n : Int) := by rw [bI_eq (by omega)]; rfl
theorem bl_zero : bl 0 = 0 := rfl
theorem bl_iff {n k : Nat} (h : 0 < n) : bl n = k + 1 ↔ 2 ^ k ≤ n ∧ n < 2 ^ (k + 1) := by
  unfold bl
  rw [if_neg (by omega)]
  constructor
  · intro e
    have e : n.log2 = k := by omega
    subst e
    exact ⟨Nat.log2_self_le (by omega), Nat.lt_log2_self⟩
  · rintro ⟨h1, h2⟩
    have := (Nat.log2_eq_iff (by omega : n ≠ 0)).mpr ⟨h1, h2⟩
    omega
theorem bl_pos {n : Nat} (h : 0 < n) : 0 < bl n := by unfold bl; rw [if_neg (by omega)]; omega
theorem bl_low {n : Nat} (h : 0 < n) : 2 ^ (bl n - 1) ≤ n := by
  have := (bl_iff (k := bl n - 1) h).mp (by have := bl_pos h; omega)
  exact this.1
theorem bl_high (n : Nat) : n < 2 ^ bl n := by
  by_cases h : 0 < n
  · have h2 := bl_pos h
    have := (bl_iff (k := bl n - 1) h).mp (by omega)
    rw [show bl n - 1 + 1 = bl n by omega] at this
    exact this.2
  · have : n = 0 := by omega
    subst this; decide
theorem bl_le_of_lt {n k : Nat} (h : n < 2 ^ k) : bl n ≤ k := by
  by_cases h0 : 0 < n
  · have h1 := bl_low h0
    have h2 := bl_pos h0
    have : 2 ^ (bl n - 1) < 2 ^ k := Nat.lt_of_le_of_lt h1 h
    have := (Nat.pow_lt_pow_iff_right (by omega : 1 < 2)).mp this
    omega
  · have : n = 0 := by omega
    subst this; rw [bl_zero]; omega
theorem lt_of_bl_le {n k : Nat} (h : bl n ≤ k) : n < 2 ^ k := Nat.lt_of_lt_of_le (bl_high n) (Nat.pow_le_pow_right (by omega) h)
theorem bl_mono {a b : Nat} (h : a ≤ b) : bl a ≤ bl b := bl_le_of_lt (Nat.lt_of_le_of_lt h (bl_high b))
theorem bl_shift {n : Nat} (h : 0 < n) (t : Nat) : bl (n * 2 ^ t) = bl n + t := by
  have h1 := bl_low h
  have h2 := bl_high n
  have h3 := bl_pos h
  have h4 : 0 < n * 2 ^ t := Nat.mul_pos h (Nat.pow_pos (by omega))
  have := (bl_iff (n := n * 2 ^ t) (k := bl n - 1 + t) h4).mpr ⟨by rw [Nat.pow_add]; exact Nat.mul_le_mul_right _ h1, by
    rw [show bl n - 1 + t + 1 = bl n + t by omega, Nat.pow_add]; exact Nat.mul_lt_mul_of_pos_right h2 (Nat.pow_pos (by omega))⟩
  omega
theorem bl_one : bl 1 = 1 := by decide
theorem bl_pow (t : Nat) : bl (2 ^ t) = t + 1 := by have := bl_shift (n := 1) (by omega) t; rw [bl_one] at this; rw [Nat.one_mul] at this; omega
theorem bl_od {n : Nat} (h : 0 < n) : bl n = bl (od n) + tz n := by
  have := bl_shift (od_pos h) (tz n)
  rw [od_mul h] at this; exact this
/-! n & -n -/
theorem land_pred_odd {j : Nat} : (2 * j + 1) &&& (2 * j) = 2 * j := by
  apply Nat.eq_of_testBit_eq
  intro i
  rw [Nat.testBit_and]
  cases i with
  | zero => simp [Nat.testBit_zero]
  | succ i => 
    rw [Nat.testBit_succ, Nat.testBit_succ]
    rw [show (2 * j + 1) / 2 = j by omega, show (2 * j) / 2 = j by omega, Bool.and_self]
theorem land_pred_two {m : Nat} (h : 0 < m) : (2 * m) &&& (2 * m - 1) = 2 * (m &&& (m - 1)) := by
  apply Nat.eq_of_testBit_eq
  intro i
  rw [Nat.testBit_and]
  cases i with
  | zero => simp [Nat.testBit_zero]
  | succ i =>
    rw [Nat.testBit_succ, Nat.testBit_succ, Nat.testBit_succ]
    rw [show (2 * m) / 2 = m by omega, show (2 * m - 1) / 2 = m - 1 by omega, show (2 * (m &&& (m - 1))) / 2 = m &&& (m - 1) by omega, Nat.testBit_and]
theorem land_pred (n : Nat) : 0 < n → (n &&& (n - 1)) + 2 ^ tz n = n := by
  induction n using Nat.strongRecOn with
  | ind n ih =>
    intro h
    by_cases h1 : n % 2 = 1
    · rw [tz_odd h1]
      obtain ⟨j, rfl⟩ : ∃ j, n = 2 * j + 1 := ⟨n / 2, by omega⟩
      rw [show 2 * j + 1 - 1 = 2 * j by omega, land_pred_odd]
    · obtain ⟨j, rfl⟩ : ∃ j, n = 2 * j := ⟨n / 2, by omega⟩
      have h3 : 0 < j := by omega
      have := ih j (by omega) h3
      rw [land_pred_two h3, tz_two h3, Nat.pow_succ]; omega
/-- trailing zeros of an int -/
@[irreducible] noncomputable def tzI (n : Int) : Int := (tz n.toNat : Int)
@[irreducible] noncomputable def odI (n : Int) : Int := (od n.toNat : Int)
theorem tzI_def (n : Int) : tzI n = (tz n.toNat : Int) := by unfold tzI; rfl
theorem odI_def (n : Int) : odI n = (od n.toNat : Int) := by unfold odI; rfl
theorem tzI_nn (n : Int) : 0 ≤ tzI n := by rw [tzI_def]; omega
theorem and_neg {n : Int} (h : 0 < n) : bI (Builtin.bitAnd n (-n)) - 1 = tzI n := by
  rw [PyProof.Rows.bitAnd_pn (by omega) (by omega)]
  have e : (Builtin.bitNot (-n)).toNat = n.toNat - 1 := by unfold Builtin.bitNot; omega
  have h2 := land_pred n.toNat (by omega)
  rw [e]
  have h4 : n - ((n.toNat &&& (n.toNat - 1) : Nat) : Int) = ((2 ^ tz n.toNat : Nat) : Int) := by omega
  rw [h4, bI_nat, bl_pow, tzI_def]; omega
theorem shr_nat {a n : Nat} : shr (a : Int) (n : Int) = ((a / 2 ^ n : Nat) : Int) := by
  rw [shr_def, Int.toNat_natCast, Int.fdiv_eq_ediv_of_nonneg _ (by have : (0:Int) < 2 ^ n := Int.pow_pos (by omega); omega)]
  rw [Int.natCast_ediv, Int.natCast_pow]; rfl
theorem shl_nat {a n : Nat} : shl (a : Int) (n : Int) = ((a * 2 ^ n : Nat) : Int) := by
  rw [shl_def, Int.toNat_natCast, Int.natCast_mul, Int.natCast_pow]; rfl
/-! M2 -/
/-! rounding: 0 down, 1 up, 2 to the nearest, halves to the even one -/
def rsh (M p : Nat) : Nat := bl M - p
def rd (k M p : Nat) : Nat :=
  if k = 0 then M / 2 ^ rsh M p else if k = 1 then (if M % 2 ^ rsh M p = 0 then M / 2 ^ rsh M p else M / 2 ^ rsh M p + 1) else
    if 2 * (M % 2 ^ rsh M p) > 2 ^ rsh M p ∨ (2 * (M % 2 ^ rsh M p) = 2 ^ rsh M p ∧ M / 2 ^ rsh M p % 2 = 1) then M / 2 ^ rsh M p + 1 else M / 2 ^ rsh M p
theorem rd_id {k M p : Nat} (h : bl M ≤ p) : rd k M p = M := by
  have e : rsh M p = 0 := by unfold rsh; omega
  unfold rd
  rw [e]
  simp [Nat.mod_one]
theorem rd_near (k M p : Nat) : M / 2 ^ rsh M p ≤ rd k M p ∧ rd k M p ≤ M / 2 ^ rsh M p + 1 := by
  have hp : 0 < 2 ^ rsh M p := Nat.pow_pos (by omega)
  unfold rd
  split
  · omega
  split
  · split <;> omega
  split <;> omega
theorem quot_range {M p : Nat} (hp : 1 ≤ p) (hb : p < bl M) : 2 ^ (p - 1) ≤ M / 2 ^ rsh M p ∧ M / 2 ^ rsh M p < 2 ^ p := by
  have hM : 0 < M := by
    refine Nat.pos_of_ne_zero fun h => ?_
    subst h; rw [bl_zero] at hb; omega
  have h1 := bl_low hM
  have h2 := bl_high M
  have hs : 0 < 2 ^ rsh M p := Nat.pow_pos (by omega)
  constructor
  · rw [Nat.le_div_iff_mul_le hs, ← Nat.pow_add]
    have : p - 1 + rsh M p = bl M - 1 := by unfold rsh; omega
    rw [this]; exact h1
  · rw [Nat.div_lt_iff_lt_mul hs, ← Nat.pow_add]
    have : p + rsh M p = bl M := by unfold rsh; omega
    rw [this]; exact h2
theorem rd_bits {k M p : Nat} (hp : 1 ≤ p) (hb : p < bl M) : bl (rd k M p) = p ∨ rd k M p = 2 ^ p := by
  have h1 := quot_range hp hb
  have h2 := rd_near k M p
  have h3 : 0 < 2 ^ (p - 1) := Nat.pow_pos (by omega)
  by_cases h : rd k M p < 2 ^ p
  · left
    have := (bl_iff (n := rd k M p) (k := p - 1) (by omega)).mpr ⟨by omega, by rw [show p - 1 + 1 = p by omega]; exact h⟩
    omega
  · right; omega
theorem rd_pos {k M p : Nat} (hp : 1 ≤ p) (hM : 0 < M) : 0 < rd k M p := by
  by_cases hb : p < bl M
  · have h1 := quot_range hp hb
    have h2 := rd_near k M p
    have h3 : 0 < 2 ^ (p - 1) := Nat.pow_pos (by omega)
    omega
  · rw [rd_id (by omega)]; exact hM
/-- the same of ints -/
@[irreducible] def rdI (k : Nat) (M p : Int) : Int := (rd k M.toNat p.toNat : Int)
@[irreducible] def shI (M p : Int) : Int := (rsh M.toNat p.toNat : Int)
theorem rdI_def (k : Nat) (M p : Int) : rdI k M p = (rd k M.toNat p.toNat : Int) := by unfold rdI; rfl
theorem shI_def (M p : Int) : shI M p = (rsh M.toNat p.toNat : Int) := by unfold shI; rfl
theorem rdI_pos {k : Nat} {M p : Int} (hp : 1 ≤ p) (hM : 0 < M) : 0 < rdI k M p := by
  rw [rdI_def]; have := @rd_pos k M.toNat p.toNat (by omega) (by omega); omega
theorem rdI_id {k : Nat} {M p : Int} (hM : 0 < M) (hp : 1 ≤ p) (h : ¬ 0 < bI M - p) : rdI k M p = M ∧ shI M p = 0 := by
  rw [bI_eq (by omega)] at h
  rw [rdI_def, shI_def, rd_id (by omega)]
  unfold rsh; omega
theorem shI_eq {M p : Int} (hM : 0 < M) (hp : 1 ≤ p) (h : 0 < bI M - p) : shI M p = bI M - p := by
  rw [bI_eq (by omega)] at *
  rw [shI_def]; unfold rsh; omega
theorem odI_one {x : Int} (h : 0 < x) (hx : odI x = 1) : bI (odI x) = 1 := by rw [hx]; decide
theorem rdI_bits {k : Nat} {M p : Int} (hM : 0 < M) (hp : 1 ≤ p) (h : 0 < bI M - p) : bI (rdI k M p) = p ∨ odI (rdI k M p) = 1 := by
  rw [bI_eq (by omega)] at h
  rw [rdI_def, bI_nat, odI_def]
  rcases @rd_bits k M.toNat p.toNat (by omega) (by omega) with h | h
  · left; omega
  · right
    have : od (2 ^ p.toNat) = 1 := by
      have := od_shift (n := 1) (by omega) p.toNat
      rw [Nat.one_mul] at this
      rw [this]; exact od_odd (by omega)
    rw [h, Int.toNat_natCast, this]; rfl
theorem odI_odd {x : Int} (h0 : 0 < x) (h : ¬ x % 2 = 0) : odI x = x ∧ tzI x = 0 := by
  have : x.toNat % 2 = 1 := by omega
  rw [odI_def, tzI_def, od_odd this, tz_odd this]; omega
theorem shr_tz {x : Int} (h0 : 0 < x) : shr x (tzI x) = odI x := by
  obtain ⟨n, rfl⟩ : ∃ n : Nat, x = (n : Int) := ⟨x.toNat, by omega⟩
  rw [tzI_def, odI_def, Int.toNat_natCast, shr_nat]; rfl
theorem bI_od {x : Int} (h0 : 0 < x) : bI x = bI (odI x) + tzI x := by
  rw [bI_eq (by omega), odI_def, tzI_def, bI_nat]
  have := bl_od (n := x.toNat) (by omega)
  omega
/-- a canonical number in a tuple, its sign before it -/
def IsSg (o : Obj) (sg M E : Int) : Prop := ∃ c t1 t2 t3 t4, o = tup4 c sg t1 (odI M) t2 (E + tzI M) t3 (bI (odI M)) t4
section
variable {c : Nat} {t1 t2 t3 t4 : Tok} {sg R e b Y : Int}
theorem fin1 (h0 : 0 < R) (h1 : ¬ R % 2 = 0) (h2 : R = 1) (hY : Y = e) : IsSg (tup4 c sg t1 R t2 Y t3 1 t4) sg R e := by
  have h := odI_odd h0 h1
  refine ⟨c, t1, t2, t3, t4, ?_⟩
  rw [h.1, h.2, hY, h2, bI1, Int.add_zero]
theorem fin2 (h0 : 0 < R) (hb : bI R = b ∨ odI R = 1) (h1 : ¬ R % 2 = 0) (h2 : ¬ R = 1) (hY : Y = e) : IsSg (tup4 c sg t1 R t2 Y t3 b t4) sg R e := by
  have h := odI_odd h0 h1
  refine ⟨c, t1, t2, t3, t4, ?_⟩
  rcases hb with hb | hb
  · rw [h.1, h.2, hY, hb, Int.add_zero]
  · rw [h.1] at hb; exact absurd hb h2
theorem fin3 (h0 : 0 < R) (h2 : shr R (tzI R) = 1) (hY : Y = e) : IsSg (tup4 c sg t1 (shr R (tzI R)) t2 (Y + tzI R) t3 1 t4) sg R e := by
  refine ⟨c, t1, t2, t3, t4, ?_⟩
  rw [shr_tz h0] at *
  rw [hY, h2, bI1]
theorem fin4 (h0 : 0 < R) (hb : bI R = b ∨ odI R = 1) (h2 : ¬ shr R (tzI R) = 1) (hY : Y = e) : IsSg (tup4 c sg t1 (shr R (tzI R)) t2 (Y + tzI R) t3 (b - tzI R) t4) sg R e := by
  refine ⟨c, t1, t2, t3, t4, ?_⟩
  rw [shr_tz h0] at *
  rcases hb with hb | hb
  · have h := bI_od h0
    rw [hY, ← hb, show bI R - tzI R = bI (odI R) by omega]
  · exact absurd hb h2
end
/-! the ways of the program's rounding -/
theorem toN {x : Int} (h : 0 ≤ x) : ∃ n : Nat, x = (n : Int) := ⟨x.toNat, by omega⟩
theorem way_trunc {M p : Int} (hM : 0 < M) (hp : 1 ≤ p) (h : 0 < bI M - p) : shr M (bI M - p) = rdI 0 M p := by
  have hs := shI_eq hM hp h
  rw [← hs, shI_def, rdI_def]
  obtain ⟨n, rfl⟩ := toN (Int.le_of_lt hM)
  rw [shr_nat]; rfl
theorem way_ceil {M p : Int} (hM : 0 < M) (hp : 1 ≤ p) (h : 0 < bI M - p) : -shr (-M) (bI M - p) = rdI 1 M p := by
  have hs := shI_eq hM hp h
  rw [← hs, shI_def, rdI_def]
  obtain ⟨n, rfl⟩ := toN (Int.le_of_lt hM)
  rw [Int.toNat_natCast]
  generalize hg : rsh n p.toNat = g
  have hd : 0 < 2 ^ g := Nat.pow_pos (by omega)
  rw [shr_def, Int.toNat_natCast]
  have e2 : ((2 : Int) ^ g) = ((2 ^ g : Nat) : Int) := by rw [Int.natCast_pow]; rfl
  rw [e2, Int.fdiv_eq_ediv_of_nonneg _ (by omega)]
  show _ = ((rd 1 n p.toNat : Nat) : Int)
  unfold rd
  rw [hg]
  simp only [Nat.one_ne_zero, if_false, if_true]
  generalize hD : 2 ^ g = D at *
  have h1 := Nat.div_add_mod n D
  have h2 := Nat.mod_lt n hd
  generalize n / D = q at *
  generalize n % D = r at *
  have e3 : ∀ x : Int, x * (D : Int) = D * x := fun x => Int.mul_comm _ _
  have e4 : ((D * q : Nat) : Int) = D * (q : Int) := Int.natCast_mul _ _
  split
  · have h3 : (-(n : Int)) / (D : Int) = -(q : Int) := by
      rw [Int.ediv_eq_iff_of_pos (by omega), e3, Int.mul_neg, ← e4]
      first | (constructor <;> omega) | omega
    rw [h3]; omega
  · have h3 : (-(n : Int)) / (D : Int) = -(q : Int) - 1 := by
      rw [Int.ediv_eq_iff_of_pos (by omega), e3, Int.mul_sub, Int.mul_neg, ← e4]
      first | (constructor <;> omega) | omega
    rw [h3]; omega
theorem and_two {t : Nat} : Builtin.bitAnd (t : Int) 2 = 0 ↔ t / 2 % 2 = 0 := by
  rw [PyProof.Rows.bitAnd_pp (by omega) (by omega), Int.toNat_natCast]
  have e : t &&& (2 : Int).toNat = 2 * (t / 2 % 2) := by
    show t &&& 2 = _
    apply Nat.eq_of_testBit_eq
    intro i
    rw [Nat.testBit_and]
    rcases i with _ | _ | i
    · simp [Nat.testBit_zero]
    · rw [Nat.testBit_succ, Nat.testBit_succ, Nat.testBit_succ]
      rw [show 2 * (t / 2 % 2) / 2 = t / 2 % 2 by omega]
      simp [Nat.testBit_zero]
    · rw [Nat.testBit_succ, Nat.testBit_succ, Nat.testBit_succ, Nat.testBit_succ, Nat.testBit_succ, Nat.testBit_succ]
      rw [show 2 * (t / 2 % 2) / 2 / 2 = 0 by omega]
      simp
  rw [e]; omega
theorem and_mask {t k : Nat} : Builtin.bitAnd (t : Int) (shl 1 (k : Int) - 1) = ((t % 2 ^ k : Nat) : Int) := by
  have e : shl 1 (k : Int) - 1 = ((2 ^ k - 1 : Nat) : Int) := by
    have : shl 1 (k : Int) = ((1 * 2 ^ k : Nat) : Int) := shl_nat (a := 1)
    have h2 : 0 < 2 ^ k := Nat.pow_pos (by omega)
    rw [this]; omega
  rw [e, PyProof.Rows.bitAnd_pp (by omega) (by omega), Int.toNat_natCast, Int.toNat_natCast, Nat.and_two_pow_sub_one_eq_mod]
theorem near_split {M s : Nat} : M / 2 ^ s / 2 = M / 2 ^ (s + 1) ∧ M % 2 ^ (s + 1) = (M / 2 ^ s % 2) * 2 ^ s + M % 2 ^ s := by
  constructor
  · rw [Nat.div_div_eq_div_mul, Nat.pow_succ]
  · rw [Nat.pow_succ, Nat.mod_mul]; rw [Nat.mul_comm]; omega
theorem near_up {M p : Int} (hM : 0 < M) (hp : 1 ≤ p) (h : 0 < bI M - p) (h1 : ¬ shr M (bI M - p - 1) % 2 = 0)
    (h2 : ¬ Builtin.bitAnd (shr M (bI M - p - 1)) 2 = 0 ∨ ¬ Builtin.bitAnd M (shl 1 (bI M - p - 1) - 1) = 0) : shr (shr M (bI M - p - 1)) 1 + 1 = rdI 2 M p := by
  obtain ⟨n, rfl⟩ := toN (Int.le_of_lt hM)
  obtain ⟨s, hs⟩ : ∃ s : Nat, bI (n : Int) - p - 1 = (s : Int) := toN (by omega)
  have hs2 : rsh n p.toNat = s + 1 := by rw [bI_nat] at hs; unfold rsh; omega
  rw [hs] at h1 h2 ⊢
  rw [shr_nat] at h1 h2 ⊢
  rw [show (1 : Int) = ((1 : Nat) : Int) from rfl, shr_nat, rdI_def, Int.toNat_natCast]
  rw [and_two, and_mask] at h2
  have hN := @near_split n s
  unfold rd
  rw [hs2]
  have hP : 0 < 2 ^ s := Nat.pow_pos (by omega)
  simp only [show ¬ (2 : Nat) = 0 by omega, show ¬ (2 : Nat) = 1 by omega, if_false]
  rw [hN.2, ← hN.1, Nat.pow_one]
  have hb : n / 2 ^ s % 2 = 1 := by omega
  rw [hb, Nat.one_mul, Nat.pow_succ]
  rw [if_pos (by omega)]; omega
theorem near_dn {M p : Int} (hM : 0 < M) (hp : 1 ≤ p) (h : 0 < bI M - p) (h1 : shr M (bI M - p - 1) % 2 = 0 ∨
    (Builtin.bitAnd (shr M (bI M - p - 1)) 2 = 0 ∧ Builtin.bitAnd M (shl 1 (bI M - p - 1) - 1) = 0)) : shr (shr M (bI M - p - 1)) 1 = rdI 2 M p := by
  obtain ⟨n, rfl⟩ := toN (Int.le_of_lt hM)
  obtain ⟨s, hs⟩ : ∃ s : Nat, bI (n : Int) - p - 1 = (s : Int) := toN (by omega)
  have hs2 : rsh n p.toNat = s + 1 := by rw [bI_nat] at hs; unfold rsh; omega
  rw [hs] at h1 ⊢
  rw [shr_nat] at h1 ⊢
  rw [show (1 : Int) = ((1 : Nat) : Int) from rfl, shr_nat, rdI_def, Int.toNat_natCast]
  rw [and_two, and_mask] at h1
  have hN := @near_split n s
  unfold rd
  rw [hs2]
  have hP : 0 < 2 ^ s := Nat.pow_pos (by omega)
  have hm : n % 2 ^ s < 2 ^ s := Nat.mod_lt _ hP
  simp only [show ¬ (2 : Nat) = 0 by omega, show ¬ (2 : Nat) = 1 by omega, if_false]
  rw [hN.2, ← hN.1, Nat.pow_one, Nat.pow_succ]
  rcases h1 with h1 | h1
  · have hb : n / 2 ^ s % 2 = 0 := by omega
    rw [hb, Nat.zero_mul, Nat.zero_add]
    rw [if_neg (by omega)]
  · have hb : n % 2 ^ s = 0 := by omega
    rw [hb, Nat.add_zero]
    by_cases h3 : n / 2 ^ s % 2 = 0
    · rw [h3, if_neg (by omega)]
    · rw [show n / 2 ^ s % 2 = 1 by omega, if_neg (by omega)]
/-- what trailing gives back -/
@[irreducible] def trI (n : Int) : Int := if n = 0 then 0 else bI (Builtin.bitAnd n (-n)) - 1
theorem trI_def (n : Int) : trI n = if n = 0 then 0 else bI (Builtin.bitAnd n (-n)) - 1 := by unfold trI; rfl
theorem trI_pos {n : Int} (h : 0 < n) : trI n = tzI n := by rw [trI_def, if_neg (by omega), and_neg h]
theorem trI_nn (n : Int) : 0 ≤ trI n := by
  by_cases h0 : n = 0
  · rw [trI_def, if_pos h0]; omega
  · by_cases h1 : 0 < n
    · rw [trI_pos h1]; exact tzI_nn n
    · have := @and_neg (-n) (by omega)
      rw [Int.neg_neg, PyProof.Rows.bitAnd_comm] at this
      rw [trI_def, if_neg h0, this]; exact tzI_nn _
/-- which way of rounding: k of a sign and the letter's number -/
def Mode (sg : Int) (code k : Nat) : Prop := (code = 110 ∧ k = 2) ∨ (code = 102 ∧ sg = 0 ∧ k = 0) ∨ (code = 102 ∧ sg = 1 ∧ k = 1) ∨ (code = 99 ∧ sg = 0 ∧ k = 1) ∨ (code = 117 ∧ sg = 0 ∧ k = 1)
section
variable {c : Nat} {t1 t2 t3 t4 : Tok} {sg R e b x y : Int}
theorem gin1 (hx : x = R) (hy : y = e) (h0 : 0 < R) (h1 : ¬ x % 2 = 0) (h2 : x = 1) : IsSg (tup4 c sg t1 x t2 y t3 1 t4) sg R e := by
  subst hx; exact fin1 h0 h1 h2 hy
theorem gin2 (hx : x = R) (hy : y = e) (h0 : 0 < R) (hb : bI R = b ∨ odI R = 1) (h1 : ¬ x % 2 = 0) (h2 : ¬ x = 1) : IsSg (tup4 c sg t1 x t2 y t3 b t4) sg R e := by
  subst hx; exact fin2 h0 hb h1 h2 hy
theorem gin3 (hx : x = R) (hy : y = e) (h0 : 0 < R) (h2 : shr x (trI x) = 1) : IsSg (tup4 c sg t1 (shr x (trI x)) t2 (y + trI x) t3 1 t4) sg R e := by
  subst hx; rw [trI_pos h0] at *; exact fin3 h0 h2 hy
theorem gin4 (hx : x = R) (hy : y = e) (h0 : 0 < R) (hb : bI R = b ∨ odI R = 1) (h2 : ¬ shr x (trI x) = 1) : IsSg (tup4 c sg t1 (shr x (trI x)) t2 (y + trI x) t3 (b - trI x) t4) sg R e := by
  subst hx; rw [trI_pos h0] at *; exact fin4 h0 hb h2 hy
end
theorem hy_up {M p e : Int} (hM : 0 < M) (hp : 1 ≤ p) (h : 0 < bI M - p) : e + (bI M - p) = e + shI M p := by rw [shI_eq hM hp h]
theorem hy_id {M p e : Int} (hM : 0 < M) (hp : 1 ≤ p) (h : ¬ 0 < bI M - p) : e = e + shI M p := by rw [(rdI_id (k := 0) hM hp h).2, Int.add_zero]
theorem hb_id {k : Nat} {M p : Int} (hM : 0 < M) (hp : 1 ≤ p) (h : ¬ 0 < bI M - p) : bI (rdI k M p) = bI M ∨ odI (rdI k M p) = 1 := .inl (congrArg bI (rdI_id hM hp h).1)
section
variable {c : Nat} {t1 t2 t3 t4 : Tok} {sg e b x y : Int}
theorem man1 (h0 : 0 < x) (h1 : x % 2 = 0) (h2 : Builtin.bitAnd x 2 ≠ 0) : IsSg (tup4 c sg t1 (shr x 1) t2 (e + 1) t3 (bI x - 1) t4) sg x e := by
  obtain ⟨n, rfl⟩ := toN (Int.le_of_lt h0)
  have h3 : ¬ n / 2 % 2 = 0 := fun h => h2 (and_two.mpr h)
  have h4 : n % 2 = 0 := by omega
  obtain ⟨j, rfl⟩ : ∃ j, n = 2 * j := ⟨n / 2, by omega⟩
  have hj : 0 < j := by omega
  have hjo : j % 2 = 1 := by omega
  have h5 := bI_od h0
  have e1 : odI ((2 * j : Nat) : Int) = (j : Int) := by rw [odI_def, Int.toNat_natCast, od_two hj, od_odd hjo]
  have e2 : tzI ((2 * j : Nat) : Int) = 1 := by rw [tzI_def, Int.toNat_natCast, tz_two hj, tz_odd hjo]; rfl
  have e3 : shr ((2 * j : Nat) : Int) 1 = (j : Int) := by rw [show (1 : Int) = ((1 : Nat) : Int) from rfl, shr_nat]; rw [show 2 * j / 2 ^ 1 = j by omega]
  refine ⟨c, t1, t2, t3, t4, ?_⟩
  rw [e1, e2] at h5
  rw [e1, e2, e3, show bI ((2 * j : Nat) : Int) - 1 = bI (j : Int) by omega]
theorem man2 (h0 : 0 < x) : IsSg (tup4 c sg t1 (shr x (trI x)) t2 (e + trI x) t3 (bI x - trI x) t4) sg x e := by
  refine ⟨c, t1, t2, t3, t4, ?_⟩
  have h5 := bI_od h0
  rw [trI_pos h0, shr_tz h0, show bI x - tzI x = bI (odI x) by omega]
theorem man3 (h0 : 0 < x) (h1 : ¬ x % 2 = 0) : IsSg (tup4 c sg t1 x t2 e t3 (bI x) t4) sg x e := by
  refine ⟨c, t1, t2, t3, t4, ?_⟩
  have h := odI_odd h0 h1
  rw [h.1, h.2, Int.add_zero]
end
/-! M3 -/
theorem pos2 (t : Nat) : 0 < 2 ^ t := Nat.pow_pos (by omega)
/-- the value of what is rounded, after a shift -/
theorem rd_scale {k M p : Nat} (hM : 0 < M) (hp : 1 ≤ p) (t : Nat) : rd k (M * 2 ^ t) p * 2 ^ rsh (M * 2 ^ t) p = rd k M p * 2 ^ (t + rsh M p) := by
  have hbl := bl_shift hM t
  by_cases h : p ≤ bl M
  · have hs : rsh (M * 2 ^ t) p = rsh M p + t := by unfold rsh; omega
    have e1 : M * 2 ^ t / 2 ^ (rsh M p + t) = M / 2 ^ rsh M p := by rw [Nat.pow_add, Nat.mul_div_mul_right _ _ (pos2 t)]
    have e2 : M * 2 ^ t % 2 ^ (rsh M p + t) = M % 2 ^ rsh M p * 2 ^ t := by rw [Nat.pow_add, Nat.mul_mod_mul_right]
    have e : rd k (M * 2 ^ t) p = rd k M p := by
      unfold rd
      rw [hs, e1, e2, Nat.pow_add]
      have hT := pos2 t
      generalize 2 ^ t = T at *
      generalize 2 ^ rsh M p = S at *
      generalize M % S = r at *
      generalize M / S = q at *
      have i1 : r * T = 0 ↔ r = 0 := by simp [Nat.mul_eq_zero]; omega
      have i2 : 2 * (r * T) > S * T ↔ 2 * r > S := by
        rw [← Nat.mul_assoc]; exact Nat.mul_lt_mul_right hT
      have i3 : 2 * (r * T) = S * T ↔ 2 * r = S := by
        rw [← Nat.mul_assoc]; exact Nat.mul_left_inj (by omega)
      simp only [i1, i2, i3]
    rw [e, hs, Nat.add_comm]
  · have hr : rsh M p = 0 := by unfold rsh; omega
    rw [rd_id (M := M) (by omega), hr, Nat.add_zero]
    by_cases h2 : bl M + t ≤ p
    · have hs : rsh (M * 2 ^ t) p = 0 := by unfold rsh; omega
      rw [rd_id (by omega), hs]; simp
    · obtain ⟨g, hg⟩ : ∃ g, rsh (M * 2 ^ t) p = g := ⟨_, rfl⟩
      have hgt : g ≤ t := by unfold rsh at hg; omega
      have e0 : M * 2 ^ t = M * 2 ^ (t - g) * 2 ^ g := by rw [Nat.mul_assoc, ← Nat.pow_add, Nat.sub_add_cancel hgt]
      have e : rd k (M * 2 ^ t) p = M * 2 ^ (t - g) := by
        unfold rd
        rw [hg, e0, Nat.mul_div_cancel _ (pos2 g), Nat.mul_mod_left]
        have := pos2 g
        simp only [Nat.mul_zero]
        rw [if_neg (c := _ ∨ _) (by omega)]
        simp
      rw [e, hg, ← e0]
/-- a canonical number is told by its worth -/
theorem isSg_eq {o : Obj} {sg e : Int} {A C u v : Nat} (hA : 0 < A) (hC : 0 < C) (h : A * 2 ^ u = C * 2 ^ v) : IsSg o sg A (e + u) ↔ IsSg o sg C (e + v) := by
  have h1 : od A = od C := by rw [← od_shift hA u, ← od_shift hC v, h]
  have h2 : tz A + u = tz C + v := by rw [← tz_mul hA u, ← tz_mul hC v, h]
  unfold IsSg
  rw [odI_def, odI_def, tzI_def, tzI_def, Int.toNat_natCast, Int.toNat_natCast, h1, show e + (u : Int) + (tz A : Int) = e + v + tz C by omega]
theorem isSg_shift {o : Obj} {sg e : Int} {A : Nat} (hA : 0 < A) (t : Nat) : IsSg o sg ((A * 2 ^ t : Nat) : Int) e ↔ IsSg o sg A (e + t) := by
  have := @isSg_eq o sg e (A * 2 ^ t) A 0 t (Nat.mul_pos hA (pos2 t)) hA (by simp)
  simpa using this
theorem isSg_rd {o : Obj} {sg e : Int} {k : Nat} {A p : Nat} (hA : 0 < A) (hp : 1 ≤ p) (t : Nat) :
    IsSg o sg (rdI k ((A * 2 ^ t : Nat) : Int) p) (e + shI ((A * 2 ^ t : Nat) : Int) p) ↔ IsSg o sg (rdI k A p) (e + t + shI A p) := by
  simp only [rdI_def, shI_def, Int.toNat_natCast]
  have h := @rd_scale k A p hA hp t
  have := @isSg_eq o sg e _ _ _ _ (rd_pos (k := k) hp (Nat.mul_pos hA (pos2 t))) (rd_pos (k := k) hp hA) h
  rw [this, show e + ((t + rsh A p : Nat) : Int) = e + t + (rsh A p : Int) by omega]
theorem od_bl {n : Nat} (h : 0 < n) : bl (od n) ≤ bl n := by have := bl_od h; omega
theorem tz_bl {n : Nat} (h : 0 < n) : tz n + 1 ≤ bl n := by have := bl_od h; have := bl_pos (od_pos h); omega
theorem bl_add {a b k : Nat} (ha : bl a ≤ k) (hb : bl b ≤ k) : bl (a + b) ≤ k + 1 := by
  have h1 := lt_of_bl_le ha
  have h2 := lt_of_bl_le hb
  refine bl_le_of_lt ?_
  rw [Nat.pow_succ]; omega
theorem bl_mul {a b k l : Nat} (ha : bl a ≤ k) (hb : bl b ≤ l) : bl (a * b) ≤ k + l := by
  have h1 := lt_of_bl_le ha
  have h2 := lt_of_bl_le hb
  refine bl_le_of_lt ?_
  rw [Nat.pow_add]
  rcases Nat.eq_zero_or_pos b with h | h
  · subst h; simp; exact Nat.mul_pos (pos2 k) (pos2 l)
  · exact Nat.lt_of_lt_of_le (Nat.mul_lt_mul_of_pos_right h1 h) (Nat.mul_le_mul_left _ (Nat.le_of_lt h2))
/-! M4 -/
theorem shl_od {M1 M2 : Nat} {E0 : Int} (h : tz M2 ≤ tz M1) : shl (odI M1) (E0 + tzI M1 - (E0 + tzI M2)) = ((od M1 * 2 ^ (tz M1 - tz M2) : Nat) : Int) := by
  rw [tzI_def, tzI_def, odI_def, Int.toNat_natCast, Int.toNat_natCast, show E0 + (tz M1 : Int) - (E0 + (tz M2 : Int)) = ((tz M1 - tz M2 : Nat) : Int) by omega, shl_nat]
theorem od_up {M1 t : Nat} (h1 : 0 < M1) (h : t ≤ tz M1) : od M1 * 2 ^ (tz M1 - t) * 2 ^ t = M1 := by
  rw [Nat.mul_assoc, ← Nat.pow_add, Nat.sub_add_cancel h, od_mul h1]
theorem bl_up {M1 t k : Nat} (h1 : 0 < M1) (b1 : bl M1 ≤ k) : bl (od M1 * 2 ^ (tz M1 - t)) ≤ k := by
  have h2 := bl_shift (od_pos h1) (tz M1 - t)
  have h3 := bl_od h1
  omega
theorem sum_up {M1 M2 : Nat} {E0 : Int} (h1 : 0 < M1) (h2 : 0 < M2) (b1 : bl M1 ≤ 100) (b2 : bl M2 ≤ 100) (h : tz M2 ≤ tz M1) :
    ∃ A : Nat, odI M2 + shl (odI M1) (E0 + tzI M1 - (E0 + tzI M2)) = (A : Int) ∧ A * 2 ^ tz M2 = M1 + M2 ∧ 0 < A ∧ bl A ≤ 101 := by
  refine ⟨od M2 + od M1 * 2 ^ (tz M1 - tz M2), ?_, ?_, ?_, ?_⟩
  · rw [shl_od h, odI_def, Int.toNat_natCast]; omega
  · rw [Nat.add_mul, od_mul h2, od_up h1 h, Nat.add_comm]
  · have := od_pos h2; omega
  · refine bl_add (Nat.le_trans (od_bl h2) b2) (bl_up h1 b1)
theorem dif_up {M1 M2 : Nat} {E0 : Int} (h1 : 0 < M1) (h2 : 0 < M2) (b1 : bl M1 ≤ 100) (b2 : bl M2 ≤ 100) (h : tz M2 ≤ tz M1) :
    (M2 < M1 → ∃ A : Nat, shl (odI M1) (E0 + tzI M1 - (E0 + tzI M2)) - odI M2 = (A : Int) ∧ A * 2 ^ tz M2 = M1 - M2 ∧ 0 < A ∧ bl A ≤ 101) ∧
    (M1 < M2 → ∃ A : Nat, shl (odI M1) (E0 + tzI M1 - (E0 + tzI M2)) - odI M2 = -(A : Int) ∧ A * 2 ^ tz M2 = M2 - M1 ∧ 0 < A ∧ bl A ≤ 101) := by
  have e1 := od_up h1 h
  have e2 := od_mul h2
  have hb1 := @bl_up M1 (tz M2) 100 h1 b1
  have hb2 := Nat.le_trans (od_bl h2) b2
  have hb1' := bl_mono (Nat.sub_le (od M1 * 2 ^ (tz M1 - tz M2)) (od M2))
  have hb2' := bl_mono (Nat.sub_le (od M2) (od M1 * 2 ^ (tz M1 - tz M2)))
  have hp := pos2 (tz M2)
  rw [shl_od h, odI_def, Int.toNat_natCast]
  generalize od M1 * 2 ^ (tz M1 - tz M2) = a at *
  generalize od M2 = b at *
  constructor
  · intro hlt
    have hab : b < a := by
      have hlt : b * 2 ^ tz M2 < a * 2 ^ tz M2 := by omega
      exact Nat.lt_of_mul_lt_mul_right hlt
    refine ⟨a - b, by omega, ?_, by omega, by omega⟩
    rw [Nat.sub_mul, e1, e2]
  · intro hlt
    have hab : a < b := by
      have hlt : a * 2 ^ tz M2 < b * 2 ^ tz M2 := by omega
      exact Nat.lt_of_mul_lt_mul_right hlt
    refine ⟨b - a, by omega, ?_, by omega, by omega⟩
    rw [Nat.sub_mul, e1, e2]
theorem bI_od_le {M k : Nat} (h : 0 < M) (b : bl M ≤ k) : bI (odI M) ≤ k := by
  rw [odI_def, Int.toNat_natCast, bI_nat]; have := od_bl h; omega
theorem odI_pos {M : Nat} (h : 0 < M) : 0 < odI M := by rw [odI_def, Int.toNat_natCast]; have := od_pos h; omega
/-- the sum's rounding, of a part of it -/
theorem isSg_part {o : Obj} {sg e : Int} {k : Nat} {A S p t : Nat} (hA : 0 < A) (hp : 1 ≤ p) (h : A * 2 ^ t = S) (x : IsSg o sg (rdI k A p) (e + t + shI A p)) :
    IsSg o sg (rdI k S p) (e + shI S p) := by
  subst h
  exact (isSg_rd hA hp t).mpr x
theorem od_mulN {a b : Nat} (ha : 0 < a) (hb : 0 < b) : od (a * b) = od a * od b ∧ tz (a * b) = tz a + tz b := by
  have e1 := od_mul ha
  have e2 := od_mul hb
  have h1 := od_oddness ha
  have h2 := od_oddness hb
  have h3 : (od a * od b) % 2 = 1 := by rw [Nat.mul_mod, h1, h2]
  have e : a * b = od a * od b * 2 ^ (tz a + tz b) := by
    rw [Nat.pow_add]
    calc a * b = od a * 2 ^ tz a * (od b * 2 ^ tz b) := by rw [e1, e2]
      _ = _ := by ac_rfl
  have hp : 0 < od a * od b := Nat.mul_pos (od_pos ha) (od_pos hb)
  constructor
  · rw [e, od_shift hp, od_odd h3]
  · rw [e, tz_mul hp, tz_odd h3]; omega
theorem isSg_mul {c t1 t2 t3 t4} {M1 M2 : Nat} {E1 E2 : Int} (h1 : 0 < M1) (h2 : 0 < M2) :
    IsSg (tup4 c 0 t1 (odI M1 * odI M2) t2 (E1 + tzI M1 + (E2 + tzI M2)) t3 (bI (odI M1 * odI M2)) t4) 0 ((M1 * M2 : Nat) : Int) (E1 + E2) := by
  have h := od_mulN h1 h2
  have e1 : odI (M1 : Int) * odI M2 = odI ((M1 * M2 : Nat) : Int) := by
    simp only [odI_def, Int.toNat_natCast]; rw [h.1, Int.natCast_mul]
  have e2 : E1 + tzI (M1 : Int) + (E2 + tzI M2) = E1 + E2 + tzI ((M1 * M2 : Nat) : Int) := by
    simp only [tzI_def, Int.toNat_natCast]; rw [h.2]; omega
  rw [e1, e2]
  exact ⟨_, _, _, _, _, rfl⟩
/-! C1 -/
section
variable {w : World} {loose : List Str} {mean : ExcName → Option Value} {mg mb : Str → Option Value}
   {dp un : Nat} {gd : Option (List Code)} {cn : Str} {cs : Scope} {a : Addr} {ccd : Value} {cl : List (Str × Addr)} {outer : List Env} {A₀ : Around} {base h₀ : Heap} {L : Addr} {m : Str → Option Value} {news : List (Addr × Obj)} {s : Shared} {Q E : Value → Shared → Prop}
   (B : Below A₀ base outer h₀) (F : Fr h₀ L s.heap m) (X : (Mine.hd.heap_39 w.params).In h₀) (N : News h₀ L s.heap news) (T : Top Mine.hd.view_39 loose mean mg mb h₀) (hk : cs.kind = .function)
include B F X N T hk
theorem t_trailing {n : Int} {tk : Tok} (hd : dp + 1 < recursionLimit) (hu : un + 8 < cLine)
   (hret : Ret1 h₀ L m news s Q (fun t => Value.int (trI n) t)) :
   wpAny (model PySem.Challenge.rw_aa5011_01.row.prog w) (ktrTop dp un gd cn cs L a ccd cl outer) (call (.ref 21) [.int n tk]) Q E s := by
  revert X; k_fill; intro X
  refine wpAny_call ?_
  k_dflt cell_enter
  walk_at "my steps"
  · refine cb_retI hret ?_ (by assumption) (by assumption)
    rw [trI_def, if_neg (by assumption)]
  · refine cb_retI hret ?_ (by assumption) (by assumption)
    rw [trI_def, if_pos (by assumption)]
end
/-! C2 -/
local macro_rules | `(tactic| walk_at "my nn") => `(tactic| exact trI_nn _)
local macro_rules | `(tactic| walk_at "call ref") => `(tactic| (k_here; (with_reducible show wpAny _ _ (call (Value.ref 21) _) _ _ _); k_dflt (refine' t_trailing ?k1 ?k2 ?k3 ?k4 ?k5 ?k6 ?k7 ?k8 ?_; (case k1 => k_asm); (case k2 => k_asm); (case k3 => k_asm); (case k4 => k_asm); (case k5 => k_asm); (case k6 => first | exact rfl | assumption); (case k7 => ktr_room); (case k8 => ktr_units); k_whole); intro t9 h9 tk9 F9 N9; (try dsimp only); (try k_fold)))
local macro_rules | `(tactic| walk_at "my hx") => `(tactic| (first | exact (rdI_id (by assumption) (by assumption) (by assumption)).1.symm | exact way_trunc (by assumption) (by assumption) (by assumption) | exact way_ceil (by assumption) (by assumption) (by assumption) | exact near_dn (by assumption) (by assumption) (by assumption) (Or.inl (by assumption)) | exact near_dn (by assumption) (by assumption) (by assumption) (Or.inr ⟨(by assumption), (by assumption)⟩) | exact near_up (by assumption) (by assumption) (by assumption) (by assumption) (Or.inl (by assumption)) | exact near_up (by assumption) (by assumption) (by assumption) (by assumption) (Or.inr (by assumption))))
local macro_rules | `(tactic| walk_at "my hy") => `(tactic| (first | exact hy_up (by assumption) (by assumption) (by assumption) | exact hy_id (by assumption) (by assumption) (by assumption)))
local macro_rules | `(tactic| walk_at "my hb") => `(tactic| (first | exact rdI_bits (by assumption) (by assumption) (by assumption) | exact hb_id (by assumption) (by assumption) (by assumption)))
/-- the ends of the rounding -/
local macro_rules | `(tactic| walk_at "my fin") => `(tactic| ((rename RetT _ _ _ _ _ _ _ => hr); refine' hr _ _ _ _ ?hP ?hF ?hN; (case hF => assumption); (case hN => assumption); (case hP => first
   | exact gin1 (by walk_at "my hx") (by walk_at "my hy") (rdI_pos (by assumption) (by assumption)) (by assumption) (by assumption)
   | exact gin2 (by walk_at "my hx") (by walk_at "my hy") (rdI_pos (by assumption) (by assumption)) (by walk_at "my hb") (by assumption) (by assumption)
   | exact gin3 (by walk_at "my hx") (by walk_at "my hy") (rdI_pos (by assumption) (by assumption)) (by assumption)
   | exact gin4 (by walk_at "my hx") (by walk_at "my hy") (rdI_pos (by assumption) (by assumption)) (by walk_at "my hb") (by assumption))))
section
variable {w : World} {loose : List Str} {mean : ExcName → Option Value} {mg mb : Str → Option Value}
   {dp un : Nat} {gd : Option (List Code)} {cn : Str} {cs : Scope} {a : Addr} {ccd : Value} {cl : List (Str × Addr)} {outer : List Env} {A₀ : Around} {base h₀ : Heap} {L : Addr} {m : Str → Option Value} {news : List (Addr × Obj)} {s : Shared} {Q E : Value → Shared → Prop}
   (B : Below A₀ base outer h₀) (F : Fr h₀ L s.heap m) (X : (Mine.hd.heap_39 w.params).In h₀) (N : News h₀ L s.heap news) (T : Top Mine.hd.view_39 loose mean mg mb h₀) (hk : cs.kind = .function)
include B F X N T hk
theorem t_norm_n {sg man exp bc prec : Int} {k1 k2 k3 k4 k5 k6 : Tok} (hd : dp + 2 < recursionLimit) (hu : un + 16 < cLine) (h0 : 0 < man) (hp : 1 ≤ prec) (hb : bI man = bc) (hbs : bI man ≤ 1000)
   (hret : RetT h₀ L m news s Q (fun o => IsSg o sg (rdI 2 man prec) (exp + shI man prec))) :
   wpAny (model PySem.Challenge.rw_aa5011_01.row.prog w) (ktrTop dp un gd cn cs L a ccd cl outer) (call (.ref 71) [.int sg k1, .int man k2, .int exp k3, .int bc k4, .int prec k5, .str ⟨#[110]⟩ k6]) Q E s := by
  revert X; k_fill; intro X
  subst hb
  have hb1 := bI1
  refine wpAny_call ?_
  k_dflt cell_enter
  walk_at "my steps"
  all_goals first | (exfalso; omega) | walk_at "my fin"
theorem t_norm_f0 {sg man exp bc prec : Int} {k1 k2 k3 k4 k5 k6 : Tok} (hd : dp + 2 < recursionLimit) (hu : un + 16 < cLine) (h0 : 0 < man) (hs : sg = 0) (hp : 1 ≤ prec) (hb : bI man = bc) (hbs : bI man ≤ 1000)
   (hret : RetT h₀ L m news s Q (fun o => IsSg o sg (rdI 0 man prec) (exp + shI man prec))) :
   wpAny (model PySem.Challenge.rw_aa5011_01.row.prog w) (ktrTop dp un gd cn cs L a ccd cl outer) (call (.ref 71) [.int sg k1, .int man k2, .int exp k3, .int bc k4, .int prec k5, .str ⟨#[102]⟩ k6]) Q E s := by
  revert X; k_fill; intro X
  subst hs
  subst hb
  have hb1 := bI1
  refine wpAny_call ?_
  k_dflt cell_enter
  walk_at "my steps"
  all_goals first | (exfalso; omega) | walk_at "my fin"
theorem t_norm_f1 {sg man exp bc prec : Int} {k1 k2 k3 k4 k5 k6 : Tok} (hd : dp + 2 < recursionLimit) (hu : un + 16 < cLine) (h0 : 0 < man) (hs : sg = 1) (hp : 1 ≤ prec) (hb : bI man = bc) (hbs : bI man ≤ 1000)
   (hret : RetT h₀ L m news s Q (fun o => IsSg o sg (rdI 1 man prec) (exp + shI man prec))) :
   wpAny (model PySem.Challenge.rw_aa5011_01.row.prog w) (ktrTop dp un gd cn cs L a ccd cl outer) (call (.ref 71) [.int sg k1, .int man k2, .int exp k3, .int bc k4, .int prec k5, .str ⟨#[102]⟩ k6]) Q E s := by
  revert X; k_fill; intro X
  subst hs
  subst hb
  have hb1 := bI1
  refine wpAny_call ?_
  k_dflt cell_enter
  walk_at "my steps"
  all_goals first | (exfalso; omega) | walk_at "my fin"
theorem t_norm_c0 {sg man exp bc prec : Int} {k1 k2 k3 k4 k5 k6 : Tok} (hd : dp + 2 < recursionLimit) (hu : un + 16 < cLine) (h0 : 0 < man) (hs : sg = 0) (hp : 1 ≤ prec) (hb : bI man = bc) (hbs : bI man ≤ 1000)
   (hret : RetT h₀ L m news s Q (fun o => IsSg o sg (rdI 1 man prec) (exp + shI man prec))) :
   wpAny (model PySem.Challenge.rw_aa5011_01.row.prog w) (ktrTop dp un gd cn cs L a ccd cl outer) (call (.ref 71) [.int sg k1, .int man k2, .int exp k3, .int bc k4, .int prec k5, .str ⟨#[99]⟩ k6]) Q E s := by
  revert X; k_fill; intro X
  subst hs
  subst hb
  have hb1 := bI1
  refine wpAny_call ?_
  k_dflt cell_enter
  walk_at "my steps"
  all_goals first | (exfalso; omega) | walk_at "my fin"
theorem t_norm_u0 {sg man exp bc prec : Int} {k1 k2 k3 k4 k5 k6 : Tok} (hd : dp + 2 < recursionLimit) (hu : un + 16 < cLine) (h0 : 0 < man) (hs : sg = 0) (hp : 1 ≤ prec) (hb : bI man = bc) (hbs : bI man ≤ 1000)
   (hret : RetT h₀ L m news s Q (fun o => IsSg o sg (rdI 1 man prec) (exp + shI man prec))) :
   wpAny (model PySem.Challenge.rw_aa5011_01.row.prog w) (ktrTop dp un gd cn cs L a ccd cl outer) (call (.ref 71) [.int sg k1, .int man k2, .int exp k3, .int bc k4, .int prec k5, .str ⟨#[117]⟩ k6]) Q E s := by
  revert X; k_fill; intro X
  subst hs
  subst hb
  have hb1 := bI1
  refine wpAny_call ?_
  k_dflt cell_enter
  walk_at "my steps"
  all_goals first | (exfalso; omega) | walk_at "my fin"
theorem t_norm {code k : Nat} {sg man exp bc prec : Int} {k1 k2 k3 k4 k5 k6 : Tok} (hd : dp + 2 < recursionLimit) (hu : un + 16 < cLine) (h0 : 0 < man) (hm : Mode sg code k) (hp : 1 ≤ prec) (hb : bI man = bc) (hbs : bI man ≤ 1000)
   (hret : RetT h₀ L m news s Q (fun o => IsSg o sg (rdI k man prec) (exp + shI man prec))) :
   wpAny (model PySem.Challenge.rw_aa5011_01.row.prog w) (ktrTop dp un gd cn cs L a ccd cl outer) (call (.ref 71) [.int sg k1, .int man k2, .int exp k3, .int bc k4, .int prec k5, .str ⟨#[code]⟩ k6]) Q E s := by
  rcases hm with ⟨rfl, rfl⟩ | ⟨rfl, hs, rfl⟩ | ⟨rfl, hs, rfl⟩ | ⟨rfl, hs, rfl⟩ | ⟨rfl, hs, rfl⟩
  · exact t_norm_n B F X N T hk hd hu h0 hp hb hbs hret
  · exact t_norm_f0 B F X N T hk hd hu h0 hs hp hb hbs hret
  · exact t_norm_f1 B F X N T hk hd hu h0 hs hp hb hbs hret
  · exact t_norm_c0 B F X N T hk hd hu h0 hs hp hb hbs hret
  · exact t_norm_u0 B F X N T hk hd hu h0 hs hp hb hbs hret
end
/-! C3 -/
local macro_rules | `(tactic| walk_at "call ref") => `(tactic| (k_here; (with_reducible show wpAny _ _ (call (Value.ref 71) _) _ _ _); k_dflt (refine' t_norm ?k1 ?k2 ?k3 ?k4 ?k5 ?k6 ?k7 ?k8 ?k9 ?k10 ?k11 ?k12 ?k13 ?_; (case k1 => k_asm); (case k2 => k_asm); (case k3 => k_asm); (case k4 => k_asm); (case k5 => k_asm); (case k6 => first | exact rfl | assumption); (case k7 => ktr_room); (case k8 => ktr_units); (case k9 => walk_at "my nn"); (case k10 => assumption); (case k11 => walk_at "my nn"); (case k12 => walk_at "my nn"); (case k13 => walk_at "my nn"); k_whole); intro D9 o9 h9 tk9 P9 F9 N9; (try dsimp only); (try k_fold)))
/-- the answer handed on -/
local macro_rules | `(tactic| walk_at "my pass") => `(tactic| ((rename RetT _ _ _ _ _ _ _ => hr); refine' hr _ _ _ _ ?hP ?hF ?hN; (case hF => assumption); (case hN => assumption); (case hP => assumption)))
section
variable {w : World} {loose : List Str} {mean : ExcName → Option Value} {mg mb : Str → Option Value}
   {dp un : Nat} {gd : Option (List Code)} {cn : Str} {cs : Scope} {a : Addr} {ccd : Value} {cl : List (Str × Addr)} {outer : List Env} {A₀ : Around} {base h₀ : Heap} {L : Addr} {m : Str → Option Value} {news : List (Addr × Obj)} {s : Shared} {Q E : Value → Shared → Prop}
   (B : Below A₀ base outer h₀) (F : Fr h₀ L s.heap m) (X : (Mine.hd.heap_39 w.params).In h₀) (N : News h₀ L s.heap news) (T : Top Mine.hd.view_39 loose mean mg mb h₀) (hk : cs.kind = .function)
include B F X N T hk
theorem t_normalize {code k : Nat} {sg man exp bc prec : Int} {k1 k2 k3 k4 k5 k6 : Tok} (hd : dp + 3 < recursionLimit) (hu : un + 24 < cLine) (h0 : 0 < man) (hm : Mode sg code k) (hp : 1 ≤ prec) (hb : bI man = bc) (hbs : bI man ≤ 1000)
   (hret : RetT h₀ L m news s Q (fun o => IsSg o sg (rdI k man prec) (exp + shI man prec))) :
   wpAny (model PySem.Challenge.rw_aa5011_01.row.prog w) (ktrTop dp un gd cn cs L a ccd cl outer) (call (.ref 78) [.int sg k1, .int man k2, .int exp k3, .int bc k4, .int prec k5, .str ⟨#[code]⟩ k6]) Q E s := by
  revert X; k_fill; intro X
  refine wpAny_call ?_
  k_dflt cell_enter
  walk_at "my steps"
  all_goals first | walk_at "my pass" | (exfalso; exact absurd hb.symm (by assumption))
end
/-! C4 -/
local macro_rules | `(tactic| walk_at "call ref") => `(tactic| (k_here; (with_reducible show wpAny _ _ (call (Value.ref 78) _) _ _ _); k_dflt (refine' t_normalize ?k1 ?k2 ?k3 ?k4 ?k5 ?k6 ?k7 ?k8 ?k9 ?k10 ?k11 ?k12 ?k13 ?_; (case k1 => k_asm); (case k2 => k_asm); (case k3 => k_asm); (case k4 => k_asm); (case k5 => k_asm); (case k6 => first | exact rfl | assumption); (case k7 => ktr_room); (case k8 => ktr_units); (case k9 => walk_at "my nn"); (case k10 => assumption); (case k11 => walk_at "my nn"); (case k12 => first | exact rfl | walk_at "my nn"); (case k13 => walk_at "my nn"); k_whole); intro D9 o9 h9 tk9 P9 F9 N9; (try dsimp only); (try k_fold)))
local macro_rules | `(tactic| walk_at "my enter") => `(tactic| (refine' code_def ?k1 ?k2 ?k3 ?k4 ?k5 ?kA ?kF ?kK ?k6 ?k7 ?k8 ?k9 ?kB ?_ ?c2 ?c3 ?c4 ?c5; (case kA => exact rfl); (case kF => exact rfl); (case kK => assumption); (case k1 => k_asm); (case k2 => k_asm); (case k3 => k_asm); (case k4 => k_asm); (case k5 => k_asm); (case k6 => k_is); (case k7 => k_is); (case k8 => ktr_room); (case k9 => first | exact BindsTo.of_eq rfl | exact binds_K (by k_in) rfl (by k_is) rfl rfl rfl); (case c5 => decide); (case kB => exact locs rfl); (case c2 => exact rfl); (case c3 => exact rfl); (case c4 => exact rfl); k_whole; intro g' L' h' FG' F' N' B' X' T'; (try dsimp only); (try k_lift B'); (try k_fold)))
section
variable {w : World} {loose : List Str} {mean : ExcName → Option Value} {mg mb : Str → Option Value}
   {dp un : Nat} {gd : Option (List Code)} {cn : Str} {cs : Scope} {a : Addr} {ccd : Value} {cl : List (Str × Addr)} {outer : List Env} {A₀ : Around} {base h₀ : Heap} {L : Addr} {m : Str → Option Value} {news : List (Addr × Obj)} {s : Shared} {Q E : Value → Shared → Prop}
   (B : Below A₀ base outer h₀) (F : Fr h₀ L s.heap m) (X : (Mine.hd.heap_39 w.params).In h₀) (N : News h₀ L s.heap news) (T : Top Mine.hd.view_39 loose mean mg mb h₀) (hk : cs.kind = .function)
include B F X N T hk
theorem t_fme2 {man exp : Int} {k1 k2 : Tok} (hd : dp + 2 < recursionLimit) (hu : un + 16 < cLine) (h0 : 0 < man)
   (hret : RetT h₀ L m news s Q (fun o => IsSg o 0 man exp)) :
   wpAny (model PySem.Challenge.rw_aa5011_01.row.prog w) (ktrTop dp un gd cn cs L a ccd cl outer) (call (.ref 86) [.int man k1, .int exp k2]) Q E s := by
  revert X; k_fill; intro X
  refine wpAny_call ?_
  k_dflt walk_at "my enter"
  walk_at "my steps"
  all_goals first | (exfalso; omega) | ((rename RetT _ _ _ _ _ _ _ => hr); refine' hr _ _ _ _ ?hP ?hF ?hN; (case hF => assumption); (case hN => assumption); (case hP => first | exact man1 (by assumption) (by assumption) (by assumption) | exact man2 (by assumption) | exact man3 (by assumption) (by assumption)))
theorem t_fme4 {code k : Nat} {man exp prec : Int} {k1 k2 k3 k4 : Tok} (hd : dp + 4 < recursionLimit) (hu : un + 32 < cLine) (h0 : 0 < man) (hm : Mode 0 code k) (hp : 1 ≤ prec) (hbs : bI man ≤ 1000)
   (hret : RetT h₀ L m news s Q (fun o => IsSg o 0 (rdI k man prec) (exp + shI man prec))) :
   wpAny (model PySem.Challenge.rw_aa5011_01.row.prog w) (ktrTop dp un gd cn cs L a ccd cl outer) (call (.ref 86) [.int man k1, .int exp k2, .int prec k3, .str ⟨#[code]⟩ k4]) Q E s := by
  revert X; k_fill; intro X
  refine wpAny_call ?_
  k_dflt walk_at "my enter"
  walk_at "my steps"
  all_goals first | (exfalso; omega) | walk_at "my pass"
end
/-! C5 -/
theorem nz {x : Int} (h : x ≠ 0) : (x != 0) = true := by simpa using h
theorem nzp {x : Int} (h : 0 < x) : (x != 0) = true := nz (by omega)
theorem nzf {x : Int} (h : x = 0) : (x != 0) = false := by subst h; rfl
section
variable {w : World} {loose : List Str} {mean : ExcName → Option Value} {mg mb : Str → Option Value}
   {dp un : Nat} {gd : Option (List Code)} {cn : Str} {cs : Scope} {a : Addr} {ccd : Value} {cl : List (Str × Addr)} {outer : List Env} {A₀ : Around} {base h₀ : Heap} {L : Addr} {m : Str → Option Value} {news : List (Addr × Obj)} {s : Shared} {Q E : Value → Shared → Prop}
   (B : Below A₀ base outer h₀) (F : Fr h₀ L s.heap m) (X : (Mine.hd.heap_39 w.params).In h₀) (N : News h₀ L s.heap news) (T : Top Mine.hd.view_39 loose mean mg mb h₀) (hk : cs.kind = .function)
include B F X N T hk
theorem t_add_gt {code k : Nat} {D1 D2 c1 c2 : Nat} {sm se sb tm te tb prec : Int} {a1 a2 a3 a4 b1 b2 b3 b4 k1 k2 : Tok} (hd : dp + 4 < recursionLimit) (hu : un + 32 < cLine)
   (hs : (D1, tup4 c1 0 a1 sm a2 se a3 sb a4) ∈ news) (ht : (D2, tup4 c2 0 b1 tm b2 te b3 tb b4) ∈ news)
   (h1 : 0 < sm) (h2 : 0 < tm) (h3 : 0 < se - te) (h4 : se - te ≤ 100) (h5 : bI sm ≤ 600) (h5' : bI tm ≤ 600) (h6 : 0 < tm + shl sm (se - te)) (h7 : bI (tm + shl sm (se - te)) ≤ 1000) (hm : Mode 0 code k) (hp : 1 ≤ prec)
   (hret : RetT h₀ L m news s Q (fun o => IsSg o 0 (rdI k (tm + shl sm (se - te)) prec) (te + shI (tm + shl sm (se - te)) prec))) :
   wpAny (model PySem.Challenge.rw_aa5011_01.row.prog w) (ktrTop dp un gd cn cs L a ccd cl outer) (call (.ref 123) [.ref D1, .ref D2, .int prec k1, .str ⟨#[code]⟩ k2]) Q E s := by
  revert X; k_fill; intro X
  have z1 := nzp h1
  have z2 := nzp h2
  have z3 : (se - te != 0) = true := nz (by omega)
  have z4 : (prec != 0) = true := nz (by omega)
  refine wpAny_call ?_
  k_dflt walk_at "my enter"
  walk_at "my steps"
  all_goals first | (exfalso; omega) | walk_at "my pass"
theorem t_add_lt {code k : Nat} {D1 D2 c1 c2 : Nat} {sm se sb tm te tb prec : Int} {a1 a2 a3 a4 b1 b2 b3 b4 k1 k2 : Tok} (hd : dp + 4 < recursionLimit) (hu : un + 32 < cLine)
   (hs : (D1, tup4 c1 0 a1 sm a2 se a3 sb a4) ∈ news) (ht : (D2, tup4 c2 0 b1 tm b2 te b3 tb b4) ∈ news)
   (h1 : 0 < sm) (h2 : 0 < tm) (h3 : se - te < 0) (h4 : -100 ≤ se - te) (h5 : bI sm ≤ 600) (h5' : bI tm ≤ 600) (h6 : 0 < sm + shl tm (-(se - te))) (h7 : bI (sm + shl tm (-(se - te))) ≤ 1000) (hm : Mode 0 code k) (hp : 1 ≤ prec)
   (hret : RetT h₀ L m news s Q (fun o => IsSg o 0 (rdI k (sm + shl tm (-(se - te))) prec) (se + shI (sm + shl tm (-(se - te))) prec))) :
   wpAny (model PySem.Challenge.rw_aa5011_01.row.prog w) (ktrTop dp un gd cn cs L a ccd cl outer) (call (.ref 123) [.ref D1, .ref D2, .int prec k1, .str ⟨#[code]⟩ k2]) Q E s := by
  revert X; k_fill; intro X
  have z1 := nzp h1
  have z2 := nzp h2
  have z3 : (se - te != 0) = true := nz (by omega)
  have z4 : (prec != 0) = true := nz (by omega)
  refine wpAny_call ?_
  k_dflt walk_at "my enter"
  walk_at "my steps"
  all_goals first | (exfalso; omega) | walk_at "my pass"
theorem t_add_eq {code k : Nat} {D1 D2 c1 c2 : Nat} {sm se sb tm te tb prec : Int} {a1 a2 a3 a4 b1 b2 b3 b4 k1 k2 : Tok} (hd : dp + 4 < recursionLimit) (hu : un + 32 < cLine)
   (hs : (D1, tup4 c1 0 a1 sm a2 se a3 sb a4) ∈ news) (ht : (D2, tup4 c2 0 b1 tm b2 te b3 tb b4) ∈ news)
   (h1 : 0 < sm) (h2 : 0 < tm) (h3 : se - te = 0) (h5 : bI sm ≤ 600) (h5' : bI tm ≤ 600) (h6 : 0 < tm + sm) (h7 : bI (tm + sm) ≤ 1000) (hm : Mode 0 code k) (hp : 1 ≤ prec)
   (hret : RetT h₀ L m news s Q (fun o => IsSg o 0 (rdI k (tm + sm) prec) (te + shI (tm + sm) prec))) :
   wpAny (model PySem.Challenge.rw_aa5011_01.row.prog w) (ktrTop dp un gd cn cs L a ccd cl outer) (call (.ref 123) [.ref D1, .ref D2, .int prec k1, .str ⟨#[code]⟩ k2]) Q E s := by
  revert X; k_fill; intro X
  have z1 := nzp h1
  have z2 := nzp h2
  have z3 : (se - te != 0) = false := nzf (by omega)
  have z4 : (prec != 0) = true := nz (by omega)
  refine wpAny_call ?_
  k_dflt walk_at "my enter"
  walk_at "my steps"
  all_goals first | (exfalso; omega) | walk_at "my pass"
theorem t_subp_gt {code k : Nat} {D1 D2 c1 c2 : Nat} {sm se sb tm te tb prec : Int} {a1 a2 a3 a4 b1 b2 b3 b4 k1 k2 k3 : Tok} (hd : dp + 4 < recursionLimit) (hu : un + 32 < cLine)
   (hs : (D1, tup4 c1 0 a1 sm a2 se a3 sb a4) ∈ news) (ht : (D2, tup4 c2 0 b1 tm b2 te b3 tb b4) ∈ news)
   (h1 : 0 < sm) (h2 : 0 < tm) (h3 : 0 < se - te) (h4 : se - te ≤ 100) (h5 : bI sm ≤ 600) (h5' : bI tm ≤ 600) (h6 : 0 < shl sm (se - te) - tm) (h7 : bI (shl sm (se - te) - tm) ≤ 1000) (hm : Mode 0 code k) (hp : 1 ≤ prec)
   (hret : RetT h₀ L m news s Q (fun o => IsSg o 0 (rdI k (shl sm (se - te) - tm) prec) (te + shI (shl sm (se - te) - tm) prec))) :
   wpAny (model PySem.Challenge.rw_aa5011_01.row.prog w) (ktrTop dp un gd cn cs L a ccd cl outer) (call (.ref 123) [.ref D1, .ref D2, .int prec k1, .str ⟨#[code]⟩ k2, .int 1 k3]) Q E s := by
  revert X; k_fill; intro X
  have z1 := nzp h1
  have z2 := nzp h2
  have z3 : (se - te != 0) = true := nz (by omega)
  have z4 : (prec != 0) = true := nz (by omega)
  refine wpAny_call ?_
  k_dflt walk_at "my enter"
  walk_at "my steps"
  all_goals first | (exfalso; omega) | walk_at "my pass"
theorem t_subn_gt {code k : Nat} {D1 D2 c1 c2 : Nat} {sm se sb tm te tb prec : Int} {a1 a2 a3 a4 b1 b2 b3 b4 k1 k2 k3 : Tok} (hd : dp + 4 < recursionLimit) (hu : un + 32 < cLine)
   (hs : (D1, tup4 c1 0 a1 sm a2 se a3 sb a4) ∈ news) (ht : (D2, tup4 c2 0 b1 tm b2 te b3 tb b4) ∈ news)
   (h1 : 0 < sm) (h2 : 0 < tm) (h3 : 0 < se - te) (h4 : se - te ≤ 100) (h5 : bI sm ≤ 600) (h5' : bI tm ≤ 600) (h6 : shl sm (se - te) - tm < 0) (h7 : bI (-(shl sm (se - te) - tm)) ≤ 1000) (hm : Mode 1 code k) (hp : 1 ≤ prec)
   (hret : RetT h₀ L m news s Q (fun o => IsSg o 1 (rdI k (-(shl sm (se - te) - tm)) prec) (te + shI (-(shl sm (se - te) - tm)) prec))) :
   wpAny (model PySem.Challenge.rw_aa5011_01.row.prog w) (ktrTop dp un gd cn cs L a ccd cl outer) (call (.ref 123) [.ref D1, .ref D2, .int prec k1, .str ⟨#[code]⟩ k2, .int 1 k3]) Q E s := by
  revert X; k_fill; intro X
  have z1 := nzp h1
  have z2 := nzp h2
  have z3 : (se - te != 0) = true := nz (by omega)
  have z4 : (prec != 0) = true := nz (by omega)
  have h8 : 0 < -(shl sm (se - te) - tm) := by omega
  refine wpAny_call ?_
  k_dflt walk_at "my enter"
  walk_at "my steps"
  all_goals first | (exfalso; omega) | walk_at "my pass"
theorem t_subp_lt {code k : Nat} {D1 D2 c1 c2 : Nat} {sm se sb tm te tb prec : Int} {a1 a2 a3 a4 b1 b2 b3 b4 k1 k2 k3 : Tok} (hd : dp + 4 < recursionLimit) (hu : un + 32 < cLine)
   (hs : (D1, tup4 c1 0 a1 sm a2 se a3 sb a4) ∈ news) (ht : (D2, tup4 c2 0 b1 tm b2 te b3 tb b4) ∈ news)
   (h1 : 0 < sm) (h2 : 0 < tm) (h3 : se - te < 0) (h4 : -100 ≤ se - te) (h5 : bI sm ≤ 600) (h5' : bI tm ≤ 600) (h6 : 0 < sm - shl tm (-(se - te))) (h7 : bI (sm - shl tm (-(se - te))) ≤ 1000) (hm : Mode 0 code k) (hp : 1 ≤ prec)
   (hret : RetT h₀ L m news s Q (fun o => IsSg o 0 (rdI k (sm - shl tm (-(se - te))) prec) (se + shI (sm - shl tm (-(se - te))) prec))) :
   wpAny (model PySem.Challenge.rw_aa5011_01.row.prog w) (ktrTop dp un gd cn cs L a ccd cl outer) (call (.ref 123) [.ref D1, .ref D2, .int prec k1, .str ⟨#[code]⟩ k2, .int 1 k3]) Q E s := by
  revert X; k_fill; intro X
  have z1 := nzp h1
  have z2 := nzp h2
  have z3 : (se - te != 0) = true := nz (by omega)
  have z4 : (prec != 0) = true := nz (by omega)
  refine wpAny_call ?_
  k_dflt walk_at "my enter"
  walk_at "my steps"
  all_goals first | (exfalso; omega) | walk_at "my pass"
theorem t_subn_lt {code k : Nat} {D1 D2 c1 c2 : Nat} {sm se sb tm te tb prec : Int} {a1 a2 a3 a4 b1 b2 b3 b4 k1 k2 k3 : Tok} (hd : dp + 4 < recursionLimit) (hu : un + 32 < cLine)
   (hs : (D1, tup4 c1 0 a1 sm a2 se a3 sb a4) ∈ news) (ht : (D2, tup4 c2 0 b1 tm b2 te b3 tb b4) ∈ news)
   (h1 : 0 < sm) (h2 : 0 < tm) (h3 : se - te < 0) (h4 : -100 ≤ se - te) (h5 : bI sm ≤ 600) (h5' : bI tm ≤ 600) (h6 : sm - shl tm (-(se - te)) < 0) (h7 : bI (-(sm - shl tm (-(se - te)))) ≤ 1000) (hm : Mode 1 code k) (hp : 1 ≤ prec)
   (hret : RetT h₀ L m news s Q (fun o => IsSg o 1 (rdI k (-(sm - shl tm (-(se - te)))) prec) (se + shI (-(sm - shl tm (-(se - te)))) prec))) :
   wpAny (model PySem.Challenge.rw_aa5011_01.row.prog w) (ktrTop dp un gd cn cs L a ccd cl outer) (call (.ref 123) [.ref D1, .ref D2, .int prec k1, .str ⟨#[code]⟩ k2, .int 1 k3]) Q E s := by
  revert X; k_fill; intro X
  have z1 := nzp h1
  have z2 := nzp h2
  have z3 : (se - te != 0) = true := nz (by omega)
  have z4 : (prec != 0) = true := nz (by omega)
  have h8 : 0 < -(sm - shl tm (-(se - te))) := by omega
  refine wpAny_call ?_
  k_dflt walk_at "my enter"
  walk_at "my steps"
  all_goals first | (exfalso; omega) | walk_at "my pass"
theorem t_subp_eq {code k : Nat} {D1 D2 c1 c2 : Nat} {sm se sb tm te tb prec : Int} {a1 a2 a3 a4 b1 b2 b3 b4 k1 k2 k3 : Tok} (hd : dp + 4 < recursionLimit) (hu : un + 32 < cLine)
   (hs : (D1, tup4 c1 0 a1 sm a2 se a3 sb a4) ∈ news) (ht : (D2, tup4 c2 0 b1 tm b2 te b3 tb b4) ∈ news)
   (h1 : 0 < sm) (h2 : 0 < tm) (h3 : se - te = 0) (h5 : bI sm ≤ 600) (h5' : bI tm ≤ 600) (h6 : 0 < sm - tm) (h7 : bI (sm - tm) ≤ 1000) (hm : Mode 0 code k) (hp : 1 ≤ prec)
   (hret : RetT h₀ L m news s Q (fun o => IsSg o 0 (rdI k (sm - tm) prec) (te + shI (sm - tm) prec))) :
   wpAny (model PySem.Challenge.rw_aa5011_01.row.prog w) (ktrTop dp un gd cn cs L a ccd cl outer) (call (.ref 123) [.ref D1, .ref D2, .int prec k1, .str ⟨#[code]⟩ k2, .int 1 k3]) Q E s := by
  revert X; k_fill; intro X
  have z1 := nzp h1
  have z2 := nzp h2
  have z3 : (se - te != 0) = false := nzf (by omega)
  have z4 : (prec != 0) = true := nz (by omega)
  refine wpAny_call ?_
  k_dflt walk_at "my enter"
  walk_at "my steps"
  all_goals first | (exfalso; omega) | walk_at "my pass"
theorem t_subn_eq {code k : Nat} {D1 D2 c1 c2 : Nat} {sm se sb tm te tb prec : Int} {a1 a2 a3 a4 b1 b2 b3 b4 k1 k2 k3 : Tok} (hd : dp + 4 < recursionLimit) (hu : un + 32 < cLine)
   (hs : (D1, tup4 c1 0 a1 sm a2 se a3 sb a4) ∈ news) (ht : (D2, tup4 c2 0 b1 tm b2 te b3 tb b4) ∈ news)
   (h1 : 0 < sm) (h2 : 0 < tm) (h3 : se - te = 0) (h5 : bI sm ≤ 600) (h5' : bI tm ≤ 600) (h6 : sm - tm < 0) (h7 : bI (-(sm - tm)) ≤ 1000) (hm : Mode 1 code k) (hp : 1 ≤ prec)
   (hret : RetT h₀ L m news s Q (fun o => IsSg o 1 (rdI k (-(sm - tm)) prec) (te + shI (-(sm - tm)) prec))) :
   wpAny (model PySem.Challenge.rw_aa5011_01.row.prog w) (ktrTop dp un gd cn cs L a ccd cl outer) (call (.ref 123) [.ref D1, .ref D2, .int prec k1, .str ⟨#[code]⟩ k2, .int 1 k3]) Q E s := by
  revert X; k_fill; intro X
  have z1 := nzp h1
  have z2 := nzp h2
  have z3 : (se - te != 0) = false := nzf (by omega)
  have z4 : (prec != 0) = true := nz (by omega)
  have h8 : 0 < -(sm - tm) := by omega
  refine wpAny_call ?_
  k_dflt walk_at "my enter"
  walk_at "my steps"
  all_goals first | (exfalso; omega) | walk_at "my pass"
end
/-! C6 -/
section
variable {w : World} {loose : List Str} {mean : ExcName → Option Value} {mg mb : Str → Option Value}
   {dp un : Nat} {gd : Option (List Code)} {cn : Str} {cs : Scope} {a : Addr} {ccd : Value} {cl : List (Str × Addr)} {outer : List Env} {A₀ : Around} {base h₀ : Heap} {L : Addr} {m : Str → Option Value} {news : List (Addr × Obj)} {s : Shared} {Q E : Value → Shared → Prop}
   (B : Below A₀ base outer h₀) (F : Fr h₀ L s.heap m) (X : (Mine.hd.heap_39 w.params).In h₀) (N : News h₀ L s.heap news) (T : Top Mine.hd.view_39 loose mean mg mb h₀) (hk : cs.kind = .function)
include B F X N T hk
theorem t_add {code k : Nat} {D1 D2 : Nat} {o1 o2 : Obj} {M1 M2 : Nat} {E0 prec : Int} {k1 k2 : Tok} (hd : dp + 4 < recursionLimit) (hu : un + 32 < cLine)
   (hs : (D1, o1) ∈ news) (ht : (D2, o2) ∈ news) (i1 : IsSg o1 0 M1 E0) (i2 : IsSg o2 0 M2 E0)
   (h1 : 0 < M1) (h2 : 0 < M2) (b1 : bl M1 ≤ 100) (b2 : bl M2 ≤ 100) (hm : Mode 0 code k) (hp : 1 ≤ prec)
   (hret : RetT h₀ L m news s Q (fun o => IsSg o 0 (rdI k ((M1 + M2 : Nat) : Int) prec) (E0 + shI ((M1 + M2 : Nat) : Int) prec))) :
   wpAny (model PySem.Challenge.rw_aa5011_01.row.prog w) (ktrTop dp un gd cn cs L a ccd cl outer) (call (.ref 123) [.ref D1, .ref D2, .int prec k1, .str ⟨#[code]⟩ k2]) Q E s := by
  obtain ⟨c1, a1, a2, a3, a4, rfl⟩ := i1
  obtain ⟨c2, b1', b2', b3, b4, rfl⟩ := i2
  obtain ⟨p, rfl⟩ := toN (show 0 ≤ prec by omega)
  have z1 := tz_bl h1
  have z2 := tz_bl h2
  have y1 := odI_pos h1
  have y2 := odI_pos h2
  have x1 := bI_od_le h1 b1
  have x2 := bI_od_le h2 b2
  have w1 : tzI (M1 : Int) = (tz M1 : Int) := by rw [tzI_def, Int.toNat_natCast]
  have w2 : tzI (M2 : Int) = (tz M2 : Int) := by rw [tzI_def, Int.toNat_natCast]
  rcases Nat.lt_trichotomy (tz M1) (tz M2) with h | h | h
  · obtain ⟨A, e1, e2, e3, e4⟩ := @sum_up M2 M1 E0 h2 h1 b2 b1 (by omega)
    have e5 : -(E0 + tzI (M1 : Int) - (E0 + tzI (M2 : Int))) = E0 + tzI (M2 : Int) - (E0 + tzI (M1 : Int)) := by omega
    refine t_add_lt B F X N T hk hd hu hs ht y1 y2 (by omega) (by omega) (by omega) (by omega) ?_ ?_ hm hp ?_
    · rw [e5, e1]; omega
    · rw [e5, e1, bI_nat]; omega
    · rw [e5, e1, w1]
      intro D o h' tk' P F' N'
      exact hret D o h' tk' (isSg_part e3 (by omega) (by rw [e2, Nat.add_comm]) P) F' N'
  · obtain ⟨A, e1, e2, e3, e4⟩ := @sum_up M1 M2 E0 h1 h2 b1 b2 (by omega)
    have e5 : odI (M2 : Int) + odI (M1 : Int) = (A : Int) := by
      rw [← e1, shl_od (by omega), h, Nat.sub_self, Nat.pow_zero, Nat.mul_one, odI_def (M1 : Int), Int.toNat_natCast]
    refine t_add_eq B F X N T hk hd hu hs ht y1 y2 (by omega) (by omega) (by omega) ?_ ?_ hm hp ?_
    · rw [e5]; omega
    · rw [e5, bI_nat]; omega
    · rw [e5, w2]
      intro D o h' tk' P F' N'
      exact hret D o h' tk' (isSg_part e3 (by omega) e2 P) F' N'
  · obtain ⟨A, e1, e2, e3, e4⟩ := @sum_up M1 M2 E0 h1 h2 b1 b2 (by omega)
    refine t_add_gt B F X N T hk hd hu hs ht y1 y2 (by omega) (by omega) (by omega) (by omega) ?_ ?_ hm hp ?_
    · rw [e1]; omega
    · rw [e1, bI_nat]; omega
    · rw [e1, w2]
      intro D o h' tk' P F' N'
      exact hret D o h' tk' (isSg_part e3 (by omega) e2 P) F' N'
theorem t_subp {code k : Nat} {D1 D2 : Nat} {o1 o2 : Obj} {M1 M2 : Nat} {E0 prec : Int} {k1 k2 k3 : Tok} (hd : dp + 4 < recursionLimit) (hu : un + 32 < cLine)
   (hs : (D1, o1) ∈ news) (ht : (D2, o2) ∈ news) (i1 : IsSg o1 0 M1 E0) (i2 : IsSg o2 0 M2 E0)
   (h1 : 0 < M1) (h2 : 0 < M2) (b1 : bl M1 ≤ 100) (b2 : bl M2 ≤ 100) (hlt : M2 < M1) (hm : Mode 0 code k) (hp : 1 ≤ prec)
   (hret : RetT h₀ L m news s Q (fun o => IsSg o 0 (rdI k ((M1 - M2 : Nat) : Int) prec) (E0 + shI ((M1 - M2 : Nat) : Int) prec))) :
   wpAny (model PySem.Challenge.rw_aa5011_01.row.prog w) (ktrTop dp un gd cn cs L a ccd cl outer) (call (.ref 123) [.ref D1, .ref D2, .int prec k1, .str ⟨#[code]⟩ k2, .int 1 k3]) Q E s := by
  obtain ⟨c1, a1, a2, a3, a4, rfl⟩ := i1
  obtain ⟨c2, b1', b2', b3, b4, rfl⟩ := i2
  obtain ⟨p, rfl⟩ := toN (show 0 ≤ prec by omega)
  have z1 := tz_bl h1
  have z2 := tz_bl h2
  have y1 := odI_pos h1
  have y2 := odI_pos h2
  have x1 := bI_od_le h1 b1
  have x2 := bI_od_le h2 b2
  have w1 : tzI (M1 : Int) = (tz M1 : Int) := by rw [tzI_def, Int.toNat_natCast]
  have w2 : tzI (M2 : Int) = (tz M2 : Int) := by rw [tzI_def, Int.toNat_natCast]
  rcases Nat.lt_trichotomy (tz M1) (tz M2) with h | h | h
  · obtain ⟨A, e1, e2, e3, e4⟩ := (@dif_up M2 M1 E0 h2 h1 b2 b1 (by omega)).2 hlt
    have e5 : -(E0 + tzI (M1 : Int) - (E0 + tzI (M2 : Int))) = E0 + tzI (M2 : Int) - (E0 + tzI (M1 : Int)) := by omega
    have e6 : odI (M1 : Int) - shl (odI (M2 : Int)) (-(E0 + tzI (M1 : Int) - (E0 + tzI (M2 : Int)))) = (A : Int) := by rw [e5]; omega
    refine t_subp_lt B F X N T hk hd hu hs ht y1 y2 (by omega) (by omega) (by omega) (by omega) ?_ ?_ hm hp ?_
    · rw [e6]; omega
    · rw [e6, bI_nat]; omega
    · rw [e6, w1]
      intro D o h' tk' P F' N'
      exact hret D o h' tk' (isSg_part e3 (by omega) e2 P) F' N'
  · obtain ⟨A, e1, e2, e3, e4⟩ := (@dif_up M1 M2 E0 h1 h2 b1 b2 (by omega)).1 hlt
    have e5 : odI (M1 : Int) - odI (M2 : Int) = (A : Int) := by
      rw [← e1, shl_od (by omega), h, Nat.sub_self, Nat.pow_zero, Nat.mul_one, odI_def (M1 : Int), Int.toNat_natCast]
    refine t_subp_eq B F X N T hk hd hu hs ht y1 y2 (by omega) (by omega) (by omega) ?_ ?_ hm hp ?_
    · rw [e5]; omega
    · rw [e5, bI_nat]; omega
    · rw [e5, w2]
      intro D o h' tk' P F' N'
      exact hret D o h' tk' (isSg_part e3 (by omega) e2 P) F' N'
  · obtain ⟨A, e1, e2, e3, e4⟩ := (@dif_up M1 M2 E0 h1 h2 b1 b2 (by omega)).1 hlt
    refine t_subp_gt B F X N T hk hd hu hs ht y1 y2 (by omega) (by omega) (by omega) (by omega) ?_ ?_ hm hp ?_
    · rw [e1]; omega
    · rw [e1, bI_nat]; omega
    · rw [e1, w2]
      intro D o h' tk' P F' N'
      exact hret D o h' tk' (isSg_part e3 (by omega) e2 P) F' N'
theorem t_subn {D1 D2 : Nat} {o1 o2 : Obj} {M1 M2 : Nat} {E0 prec : Int} {k1 k2 k3 : Tok} (hd : dp + 4 < recursionLimit) (hu : un + 32 < cLine)
   (hs : (D1, o1) ∈ news) (ht : (D2, o2) ∈ news) (i1 : IsSg o1 0 M1 E0) (i2 : IsSg o2 0 M2 E0)
   (h1 : 0 < M1) (h2 : 0 < M2) (b1 : bl M1 ≤ 100) (b2 : bl M2 ≤ 100) (hlt : M1 < M2) (hp : 1 ≤ prec)
   (hret : RetT h₀ L m news s Q (fun o => ∃ M E, IsSg o 1 M E)) :
   wpAny (model PySem.Challenge.rw_aa5011_01.row.prog w) (ktrTop dp un gd cn cs L a ccd cl outer) (call (.ref 123) [.ref D1, .ref D2, .int prec k1, .str ⟨#[102]⟩ k2, .int 1 k3]) Q E s := by
  obtain ⟨c1, a1, a2, a3, a4, rfl⟩ := i1
  obtain ⟨c2, b1', b2', b3, b4, rfl⟩ := i2
  obtain ⟨p, rfl⟩ := toN (show 0 ≤ prec by omega)
  have hm : Mode 1 102 1 := by simp [Mode]
  have z1 := tz_bl h1
  have z2 := tz_bl h2
  have y1 := odI_pos h1
  have y2 := odI_pos h2
  have x1 := bI_od_le h1 b1
  have x2 := bI_od_le h2 b2
  have w1 : tzI (M1 : Int) = (tz M1 : Int) := by rw [tzI_def, Int.toNat_natCast]
  have w2 : tzI (M2 : Int) = (tz M2 : Int) := by rw [tzI_def, Int.toNat_natCast]
  rcases Nat.lt_trichotomy (tz M1) (tz M2) with h | h | h
  · obtain ⟨A, e1, e2, e3, e4⟩ := (@dif_up M2 M1 E0 h2 h1 b2 b1 (by omega)).1 hlt
    have e5 : -(E0 + tzI (M1 : Int) - (E0 + tzI (M2 : Int))) = E0 + tzI (M2 : Int) - (E0 + tzI (M1 : Int)) := by omega
    have e6 : odI (M1 : Int) - shl (odI (M2 : Int)) (-(E0 + tzI (M1 : Int) - (E0 + tzI (M2 : Int)))) = -(A : Int) := by rw [e5]; omega
    refine t_subn_lt B F X N T hk hd hu hs ht y1 y2 (by omega) (by omega) (by omega) (by omega) ?_ ?_ hm hp ?_
    · rw [e6]; omega
    · rw [e6, Int.neg_neg, bI_nat]; omega
    · exact fun D o h' tk' P F' N' => hret D o h' tk' ⟨_, _, P⟩ F' N'
  · obtain ⟨A, e1, e2, e3, e4⟩ := (@dif_up M1 M2 E0 h1 h2 b1 b2 (by omega)).2 hlt
    have e5 : odI (M1 : Int) - odI (M2 : Int) = -(A : Int) := by
      rw [← e1, shl_od (by omega), h, Nat.sub_self, Nat.pow_zero, Nat.mul_one, odI_def (M1 : Int), Int.toNat_natCast]
    refine t_subn_eq B F X N T hk hd hu hs ht y1 y2 (by omega) (by omega) (by omega) ?_ ?_ hm hp ?_
    · rw [e5]; omega
    · rw [e5, Int.neg_neg, bI_nat]; omega
    · exact fun D o h' tk' P F' N' => hret D o h' tk' ⟨_, _, P⟩ F' N'
  · obtain ⟨A, e1, e2, e3, e4⟩ := (@dif_up M1 M2 E0 h1 h2 b1 b2 (by omega)).2 hlt
    refine t_subn_gt B F X N T hk hd hu hs ht y1 y2 (by omega) (by omega) (by omega) (by omega) ?_ ?_ hm hp ?_
    · rw [e1]; omega
    · rw [e1, Int.neg_neg, bI_nat]; omega
    · exact fun D o h' tk' P F' N' => hret D o h' tk' ⟨_, _, P⟩ F' N'
end
/-! C7 -/
abbrev tup2 (c : Nat) (v u : Value) : Obj := { cls := .type "tuple", data := .seq #[v, u] c }
local macro_rules | `(tactic| walk_at "my after") => `(tactic| (k_whole; intro D9 o9 h9 tk9 P9 F9 N9; (have P9' := P9); (first | (obtain ⟨c9, ta9, tb9, tc9, td9, hq9⟩ := P9; subst hq9) | (obtain ⟨M9, E9, c9, ta9, tb9, tc9, td9, hq9⟩ := P9; subst hq9)); (try dsimp only); (try k_fold)))
local macro_rules | `(tactic| walk_at "my mem") => `(tactic| (first | assumption | k_mem))
local macro_rules | `(tactic| walk_at "call ref") => `(tactic| (k_here; (with_reducible show wpAny _ _ (call (Value.ref 123) [_, _, _, _]) _ _ _); k_dflt ((refine' t_add ?k1 ?k2 ?k3 ?k4 ?k5 ?k6 ?k7 ?k8 ?q1 ?q2 ?q3 ?q4 ?q5 ?q6 ?q7 ?q8 ?q9 ?q10 ?_); (case k1 => k_asm); (case k2 => k_asm); (case k3 => k_asm); (case k4 => k_asm); (case k5 => k_asm); (case k6 => first | exact rfl | assumption); (case k7 => ktr_room); (case k8 => ktr_units); (case q1 => walk_at "my mem"); (case q2 => walk_at "my mem"); (case q3 => assumption); (case q4 => assumption); (case q5 => assumption); (case q6 => assumption); (case q7 => assumption); (case q8 => assumption); (case q9 => assumption); (case q10 => walk_at "my nn"); walk_at "my after")))
local macro_rules | `(tactic| walk_at "call ref") => `(tactic| (k_here; (with_reducible show wpAny _ _ (call (Value.ref 123) [_, _, _, _, _]) _ _ _); k_dflt (first | ((refine' t_subp ?k1 ?k2 ?k3 ?k4 ?k5 ?k6 ?k7 ?k8 ?q1 ?q2 ?q3 ?q4 ?q5 ?q6 ?q7 ?q8 ?q9 ?q10 ?q11 ?_); (case k1 => k_asm); (case k2 => k_asm); (case k3 => k_asm); (case k4 => k_asm); (case k5 => k_asm); (case k6 => first | exact rfl | assumption); (case k7 => ktr_room); (case k8 => ktr_units); (case q1 => walk_at "my mem"); (case q2 => walk_at "my mem"); (case q3 => assumption); (case q4 => assumption); (case q5 => assumption); (case q6 => assumption); (case q7 => assumption); (case q8 => assumption); (case q9 => assumption); (case q10 => assumption); (case q11 => walk_at "my nn"); walk_at "my after") | ((refine' t_subn ?k1 ?k2 ?k3 ?k4 ?k5 ?k6 ?k7 ?k8 ?q1 ?q2 ?q3 ?q4 ?q5 ?q6 ?q7 ?q8 ?q9 ?q11 ?_); (case k1 => k_asm); (case k2 => k_asm); (case k3 => k_asm); (case k4 => k_asm); (case k5 => k_asm); (case k6 => first | exact rfl | assumption); (case k7 => ktr_room); (case k8 => ktr_units); (case q1 => walk_at "my mem"); (case q2 => walk_at "my mem"); (case q3 => assumption); (case q4 => assumption); (case q5 => assumption); (case q6 => assumption); (case q7 => assumption); (case q8 => assumption); (case q9 => assumption); (case q11 => walk_at "my nn"); walk_at "my after"))))
section
variable {w : World} {loose : List Str} {mean : ExcName → Option Value} {mg mb : Str → Option Value}
   {dp un : Nat} {gd : Option (List Code)} {cn : Str} {cs : Scope} {a : Addr} {ccd : Value} {cl : List (Str × Addr)} {outer : List Env} {A₀ : Around} {base h₀ : Heap} {L : Addr} {m : Str → Option Value} {news : List (Addr × Obj)} {s : Shared} {Q E : Value → Shared → Prop}
   (B : Below A₀ base outer h₀) (F : Fr h₀ L s.heap m) (X : (Mine.hd.heap_39 w.params).In h₀) (N : News h₀ L s.heap news) (T : Top Mine.hd.view_39 loose mean mg mb h₀) (hk : cs.kind = .function)
include B F X N T hk
theorem t_msubp {code k : Nat} {D1 D2 : Nat} {o1 o2 : Obj} {M1 M2 : Nat} {E0 prec : Int} {k1 k2 : Tok} (hd : dp + 5 < recursionLimit) (hu : un + 40 < cLine)
   (hs : (D1, o1) ∈ news) (ht : (D2, o2) ∈ news) (i1 : IsSg o1 0 M1 E0) (i2 : IsSg o2 0 M2 E0)
   (h1 : 0 < M1) (h2 : 0 < M2) (b1 : bl M1 ≤ 100) (b2 : bl M2 ≤ 100) (hlt : M2 < M1) (hm : Mode 0 code k) (hp : 1 ≤ prec)
   (hret : RetT h₀ L m news s Q (fun o => IsSg o 0 (rdI k ((M1 - M2 : Nat) : Int) prec) (E0 + shI ((M1 - M2 : Nat) : Int) prec))) :
   wpAny (model PySem.Challenge.rw_aa5011_01.row.prog w) (ktrTop dp un gd cn cs L a ccd cl outer) (call (.ref 131) [.ref D1, .ref D2, .int prec k1, .str ⟨#[code]⟩ k2]) Q E s := by
  revert X; k_fill; intro X
  refine wpAny_call ?_
  k_dflt walk_at "my enter"
  walk_at "my steps"
  all_goals walk_at "my pass"
theorem t_msubn {D1 D2 : Nat} {o1 o2 : Obj} {M1 M2 : Nat} {E0 prec : Int} {k1 k2 : Tok} (hd : dp + 5 < recursionLimit) (hu : un + 40 < cLine)
   (hs : (D1, o1) ∈ news) (ht : (D2, o2) ∈ news) (i1 : IsSg o1 0 M1 E0) (i2 : IsSg o2 0 M2 E0)
   (h1 : 0 < M1) (h2 : 0 < M2) (b1 : bl M1 ≤ 100) (b2 : bl M2 ≤ 100) (hlt : M1 < M2) (hp : 1 ≤ prec)
   (hret : RetT h₀ L m news s Q (fun o => ∃ M E, IsSg o 1 M E)) :
   wpAny (model PySem.Challenge.rw_aa5011_01.row.prog w) (ktrTop dp un gd cn cs L a ccd cl outer) (call (.ref 131) [.ref D1, .ref D2, .int prec k1, .str ⟨#[102]⟩ k2]) Q E s := by
  revert X; k_fill; intro X
  refine wpAny_call ?_
  k_dflt walk_at "my enter"
  walk_at "my steps"
  all_goals walk_at "my pass"
theorem t_shift {D1 : Nat} {o1 : Obj} {M1 E0 n : Int} {k1 : Tok} (hd : dp + 1 < recursionLimit) (hu : un + 8 < cLine)
   (hs : (D1, o1) ∈ news) (i1 : IsSg o1 0 M1 E0) (h1 : 0 < M1)
   (hret : RetT h₀ L m news s Q (fun o => IsSg o 0 M1 (E0 + n))) :
   wpAny (model PySem.Challenge.rw_aa5011_01.row.prog w) (ktrTop dp un gd cn cs L a ccd cl outer) (call (.ref 146) [.ref D1, .int n k1]) Q E s := by
  revert X; k_fill; intro X
  obtain ⟨c1, a1, a2, a3, a4, rfl⟩ := i1
  have z1 := nzp (show 0 < odI M1 by obtain ⟨M, rfl⟩ := toN (Int.le_of_lt h1); exact odI_pos (by omega))
  refine wpAny_call ?_
  k_dflt walk_at "my enter"
  walk_at "my steps"
  all_goals ((rename RetT _ _ _ _ _ _ _ => hr); refine' hr _ _ _ _ ?hP ?hF ?hN; (case hF => assumption); (case hN => assumption); (case hP => rw [show E0 + tzI M1 + n = E0 + n + tzI M1 by omega]; exact ⟨_, _, _, _, _, rfl⟩))
end
/-! C8 -/
local macro_rules | `(tactic| walk_at "call ref") => `(tactic| (k_here; (with_reducible show wpAny _ _ (call (Value.ref 131) [_, _, _, _]) _ _ _); k_dflt (first | ((refine' t_msubp ?k1 ?k2 ?k3 ?k4 ?k5 ?k6 ?k7 ?k8 ?q1 ?q2 ?q3 ?q4 ?q5 ?q6 ?q7 ?q8 ?q9 ?q10 ?q11 ?_); (case k1 => k_asm); (case k2 => k_asm); (case k3 => k_asm); (case k4 => k_asm); (case k5 => k_asm); (case k6 => first | exact rfl | assumption); (case k7 => ktr_room); (case k8 => ktr_units); (case q1 => walk_at "my mem"); (case q2 => walk_at "my mem"); (case q3 => assumption); (case q4 => assumption); (case q5 => assumption); (case q6 => assumption); (case q7 => assumption); (case q8 => assumption); (case q9 => assumption); (case q10 => assumption); (case q11 => walk_at "my nn"); walk_at "my after") | ((refine' t_msubn ?k1 ?k2 ?k3 ?k4 ?k5 ?k6 ?k7 ?k8 ?q1 ?q2 ?q3 ?q4 ?q5 ?q6 ?q7 ?q8 ?q9 ?q11 ?_); (case k1 => k_asm); (case k2 => k_asm); (case k3 => k_asm); (case k4 => k_asm); (case k5 => k_asm); (case k6 => first | exact rfl | assumption); (case k7 => ktr_room); (case k8 => ktr_units); (case q1 => walk_at "my mem"); (case q2 => walk_at "my mem"); (case q3 => assumption); (case q4 => assumption); (case q5 => assumption); (case q6 => assumption); (case q7 => assumption); (case q8 => assumption); (case q9 => assumption); (case q11 => walk_at "my nn"); walk_at "my after"))))
theorem od_cmp {M1 M2 : Nat} (h1 : 0 < M1) (h2 : 0 < M2) (h : tzI (M1 : Int) = tzI (M2 : Int)) : (odI (M1 : Int) < odI (M2 : Int) ↔ M1 < M2) := by
  rw [tzI_def, tzI_def, Int.toNat_natCast, Int.toNat_natCast] at h
  rw [odI_def, odI_def, Int.toNat_natCast, Int.toNat_natCast]
  have e1 := od_mul h1
  have e2 := od_mul h2
  rw [show tz M1 = tz M2 by omega] at e1
  have hp := pos2 (tz M2)
  generalize od M1 = a at *
  generalize od M2 = b at *
  have := @Nat.mul_lt_mul_right (2 ^ tz M2) a b hp
  omega
theorem bl_od_I {M : Nat} (h : 0 < M) : bI (odI (M : Int)) + tzI (M : Int) = (bl M : Int) := by
  rw [← bI_od (by omega), bI_nat]
def cmpI (M1 M2 : Nat) : Int := if M1 < M2 then -1 else if M2 < M1 then 1 else 0
section
variable {w : World} {loose : List Str} {mean : ExcName → Option Value} {mg mb : Str → Option Value}
   {dp un : Nat} {gd : Option (List Code)} {cn : Str} {cs : Scope} {a : Addr} {ccd : Value} {cl : List (Str × Addr)} {outer : List Env} {A₀ : Around} {base h₀ : Heap} {L : Addr} {m : Str → Option Value} {news : List (Addr × Obj)} {s : Shared} {Q E : Value → Shared → Prop}
   (B : Below A₀ base outer h₀) (F : Fr h₀ L s.heap m) (X : (Mine.hd.heap_39 w.params).In h₀) (N : News h₀ L s.heap news) (T : Top Mine.hd.view_39 loose mean mg mb h₀) (hk : cs.kind = .function)
include B F X N T hk
theorem t_cmp {D1 D2 : Nat} {o1 o2 : Obj} {M1 M2 : Nat} {E0 : Int} (hd : dp + 6 < recursionLimit) (hu : un + 48 < cLine)
   (hs : (D1, o1) ∈ news) (ht : (D2, o2) ∈ news) (i1 : IsSg o1 0 M1 E0) (i2 : IsSg o2 0 M2 E0)
   (h1 : 0 < M1) (h2 : 0 < M2) (b1 : bl M1 ≤ 100) (b2 : bl M2 ≤ 100)
   (hret : Ret1 h₀ L m news s Q (fun t => Value.int (cmpI M1 M2) t)) :
   wpAny (model PySem.Challenge.rw_aa5011_01.row.prog w) (ktrTop dp un gd cn cs L a ccd cl outer) (call (.ref 93) [.ref D1, .ref D2]) Q E s := by
  revert X; k_fill; intro X
  have i1' := i1
  have i2' := i2
  obtain ⟨c1, a1, a2, a3, a4, rfl⟩ := i1
  obtain ⟨c2, b1', b2', b3, b4, rfl⟩ := i2
  have z1 := nzp (odI_pos h1)
  have z2 := nzp (odI_pos h2)
  have hM : Mode 0 102 0 := by simp [Mode]
  have g1 := bl_od_I h1
  have g2 := bl_od_I h2
  have g3 : M1 < M2 → bl M1 ≤ bl M2 := fun h => bl_mono (by omega)
  have g4 : M2 < M1 → bl M2 ≤ bl M1 := fun h => bl_mono (by omega)
  have g5 : tzI (M1 : Int) = tzI (M2 : Int) → (odI (M1 : Int) < odI (M2 : Int) ↔ M1 < M2) := od_cmp h1 h2
  have g6 : tzI (M1 : Int) = tzI (M2 : Int) → (odI (M2 : Int) < odI (M1 : Int) ↔ M2 < M1) := fun h => od_cmp h2 h1 h.symm
  rcases Nat.lt_trichotomy M1 M2 with h | h | h
  · have e : cmpI M1 M2 = -1 := if_pos h
    rw [e] at hret
    have g7 := g3 h
    refine wpAny_call ?_
    k_dflt walk_at "my enter"
    walk_at "my steps"
    all_goals first | exact hret _ _ _ (by assumption) (cb_drop (by assumption) (fun p hp => by first | exact hp | exact .tail _ hp)) | (exfalso; simp only [bI] at *; omega)
  · have e : cmpI M1 M2 = 0 := by unfold cmpI; rw [if_neg (by omega), if_neg (by omega)]
    rw [e] at hret
    subst h
    refine wpAny_call ?_
    k_dflt walk_at "my enter"
    walk_at "my steps"
    all_goals first | exact hret _ _ _ (by assumption) (by assumption) | (exfalso; simp only [bI] at *; omega)
  · have e : cmpI M1 M2 = 1 := by unfold cmpI; rw [if_neg (by omega), if_pos (by omega)]
    rw [e] at hret
    have g7 := g4 h
    refine wpAny_call ?_
    k_dflt walk_at "my enter"
    walk_at "my steps"
    all_goals first | exact hret _ _ _ (by assumption) (cb_drop (by assumption) (fun p hp => by first | exact hp | exact .tail _ hp)) | (exfalso; simp only [bI] at *; omega)
end
/-! D1 -/
def Halt (P : Prop) : Prop := P
theorem Halt.out {P : Prop} (h : Halt P) : P := h
theorem Halt.mk {P : Prop} (h : P) : Halt P := h
local macro_rules | `(tactic| walk_at "exec While") => `(tactic| (refine Halt.out ?_))
theorem shr_one {a : Int} (h : 0 ≤ a) : shr a 1 = a / 2 := by
  obtain ⟨n, rfl⟩ := toN h
  rw [show (1 : Int) = ((1 : Nat) : Int) from rfl, shr_nat, Nat.pow_one]; omega
theorem bI_mono {a b : Int} (h0 : 0 ≤ a) (h : a ≤ b) : bI a ≤ bI b := by
  rw [bI_eq h0, bI_eq (by omega)]
  have := bl_mono (a := a.toNat) (b := b.toNat) (by omega)
  omega
/-- one round of Newton's way from above -/
theorem newton {x r : Int} (hx : 0 < x) (hr : 0 < r) : 0 < shr (r + x / r) 1 ∧ x < (shr (r + x / r) 1 + 1) * (shr (r + x / r) 1 + 1) := by
  have hq : 0 ≤ x / r := Int.ediv_nonneg (by omega) (by omega)
  have h1 := Int.emod_add_mul_ediv x r
  have h2 := Int.emod_lt_of_pos x hr
  have h3 := Int.emod_nonneg x (b := r) (by omega)
  rw [shr_one (by omega)]
  generalize x / r = q at *
  generalize x % r = e at *
  have hy : (r + q) / 2 * 2 ≤ r + q ∧ r + q < (r + q) / 2 * 2 + 2 := by omega
  generalize hyd : (r + q) / 2 = y at *
  have h0 : 0 < y := by
    rcases Int.lt_or_le 0 y with h | h
    · exact h
    · have hr1 : r = 1 := by omega
      have hq0 : q = 0 := by omega
      subst hr1; subst hq0; omega
  refine ⟨h0, ?_⟩
  -- 4 (y + 1)^2 ≥ (r + q + 1)^2 ≥ 4 r (q + 1) > 4 x
  have h4 : r + q + 1 ≤ 2 * (y + 1) := by omega
  have h5 : (r + q + 1) * (r + q + 1) ≤ (2 * (y + 1)) * (2 * (y + 1)) := Int.mul_le_mul h4 h4 (by omega) (by omega)
  have h6 : 0 ≤ (r - (q + 1)) * (r - (q + 1)) := by
    rcases Int.le_total 0 (r - (q + 1)) with h | h
    · exact Int.mul_nonneg h h
    · have := Int.mul_nonneg (a := -(r - (q + 1))) (b := -(r - (q + 1))) (by omega) (by omega)
      rwa [Int.neg_mul_neg] at this
  have h7 : x < r * (q + 1) := by rw [Int.mul_add, Int.mul_one]; omega
  have e1 : (r + q + 1) * (r + q + 1) = (r - (q + 1)) * (r - (q + 1)) + 4 * (r * (q + 1)) := by
    simp only [Int.add_mul, Int.mul_add, Int.sub_mul, Int.mul_sub, Int.mul_one, Int.one_mul, Int.mul_comm q r]; omega
  have e2 : (2 * (y + 1)) * (2 * (y + 1)) = 4 * ((y + 1) * (y + 1)) := by
    simp only [Int.add_mul, Int.mul_add, Int.mul_one, Int.one_mul]
    have : 2 * y * (2 * y) = 4 * (y * y) := by
      rw [Int.mul_assoc, Int.mul_left_comm y 2 y]; omega
    omega
  omega
theorem newton_end {x r : Int} (hx : 0 < x) (hr : 0 < r) (h : shr (r + x / r) 1 ≥ r) : r * r ≤ x := by
  have hq : 0 ≤ x / r := Int.ediv_nonneg (by omega) (by omega)
  have h1 := Int.emod_add_mul_ediv x r
  have h3 := Int.emod_nonneg x (b := r) (by omega)
  rw [shr_one (by omega)] at h
  generalize x / r = q at *
  generalize x % r = e at *
  have h4 : r ≤ q := by omega
  have := Int.mul_le_mul_of_nonneg_left h4 (Int.le_of_lt hr)
  omega
theorem sq_start {x : Int} (hx : 0 < x) (hb : bI x ≤ 500) : 0 < shl 1 (shr ((Builtin.Int.intBits x : Int) + 1) 1) ∧ x < (shl 1 (shr ((Builtin.Int.intBits x : Int) + 1) 1) + 1) * (shl 1 (shr ((Builtin.Int.intBits x : Int) + 1) 1) + 1) ∧ bI (shl 1 (shr ((Builtin.Int.intBits x : Int) + 1) 1)) ≤ 600 := by
  obtain ⟨n, rfl⟩ := toN (Int.le_of_lt hx)
  have e0 : ((Builtin.Int.intBits (n : Int) : Nat) : Int) = (bl n : Int) := bI_nat n
  rw [e0, shr_one (by omega), show ((bl n : Int) + 1) / 2 = (((bl n + 1) / 2 : Nat) : Int) by omega]
  have hbn : bl n ≤ 500 := by rw [bI_nat] at hb; omega
  generalize hk : (bl n + 1) / 2 = k
  have e1 : shl 1 (k : Int) = ((2 ^ k : Nat) : Int) := by have := @shl_nat 1 k; rw [Nat.one_mul] at this; exact this
  rw [e1]
  have h1 := bl_high n
  have h2 : 2 ^ bl n ≤ 2 ^ (k + k) := Nat.pow_le_pow_right (by omega) (by omega)
  rw [Nat.pow_add] at h2
  have h3 := pos2 k
  refine ⟨by omega, ?_, ?_⟩
  · have : ((2 ^ k : Nat) : Int) * ((2 ^ k : Nat) : Int) ≤ (((2 ^ k : Nat) : Int) + 1) * (((2 ^ k : Nat) : Int) + 1) := Int.mul_le_mul (by omega) (by omega) (by omega) (by omega)
    have h4 : (n : Int) < ((2 ^ k * 2 ^ k : Nat) : Int) := by omega
    rw [Int.natCast_mul] at h4
    omega
  · rw [bI_nat, bl_pow]; omega
section
variable {w : World} {loose : List Str} {mean : ExcName → Option Value} {mg mb : Str → Option Value}
   {dp un : Nat} {gd : Option (List Code)} {cn : Str} {cs : Scope} {a : Addr} {ccd : Value} {cl : List (Str × Addr)} {outer : List Env} {A₀ : Around} {base h₀ : Heap} {L : Addr} {m : Str → Option Value} {news : List (Addr × Obj)} {s : Shared} {Q E : Value → Shared → Prop}
   (B : Below A₀ base outer h₀) (F : Fr h₀ L s.heap m) (X : (Mine.hd.heap_39 w.params).In h₀) (N : News h₀ L s.heap news) (T : Top Mine.hd.view_39 loose mean mg mb h₀) (hk : cs.kind = .function)
include B F X N T hk
theorem t_isqs {x : Int} {k1 : Tok} (hd : dp + 1 < recursionLimit) (hu : un + 8 < cLine) (h0 : 0 < x) (hb : bI x ≤ 500)
   (hret : ∀ r : Int, 0 < r → r * r ≤ x → x < (r + 1) * (r + 1) → bI r ≤ 600 → Ret1 h₀ L m news s Q (fun t => Value.int r t)) :
   wpAny (model PySem.Challenge.rw_aa5011_01.row.prog w) (ktrTop dp un gd cn cs L a ccd cl outer) (call (.ref 28) [.int x k1]) Q E s := by
  revert X; k_fill; intro X
  have z1 := nzp h0
  have hb1 := bI1
  have hsh : 0 ≤ shr ((Builtin.Int.intBits x : Int) + 1) 1 ∧ shr ((Builtin.Int.intBits x : Int) + 1) 1 ≤ 500 := by
    rw [shr_one (by omega)]; simp only [bI] at hb; omega
  refine wpAny_call ?_
  k_dflt cell_enter
  walk_at "my steps"
  refine Halt.mk ?_
  have hS := sq_start h0 hb
  k_while (fun (_ : List Int) (r : Int) => 0 < r ∧ x < (r + 1) * (r + 1) ∧ bI r ≤ 600) (fun (_ : List Int) r => r.toNat) "r"
  clear hS
  rename_i r9 t9 hI1 hI2 hI3
  obtain ⟨hN1, hN2⟩ := newton h0 hI1
  have hN3 := newton_end h0 hI1
  have hN4 := fun (h : _ ≤ r9) => bI_mono (Int.le_of_lt hN1) h
  walk_at "my steps"
  exact hret _ hI1 (hN3 (by assumption)) hI2 hI3 _ _ _ (by assumption) (by assumption)
end
local macro_rules | `(tactic| walk_at "call ref") => `(tactic| (k_here; (with_reducible show wpAny _ _ (call (Value.ref 28) _) _ _ _); k_dflt (refine' t_isqs ?k1 ?k2 ?k3 ?k4 ?k5 ?k6 ?k7 ?k8 ?q1 ?q2 ?_; (case k1 => k_asm); (case k2 => k_asm); (case k3 => k_asm); (case k4 => k_asm); (case k5 => k_asm); (case k6 => first | exact rfl | assumption); (case k7 => ktr_room); (case k8 => ktr_units); (case q1 => walk_at "my nn"); (case q2 => walk_at "my nn"); k_whole); intro r9 hr1 hr2 hr3 hr4 t9 h9 tk9 F9 N9; (try dsimp only); (try k_fold)))
section
variable {w : World} {loose : List Str} {mean : ExcName → Option Value} {mg mb : Str → Option Value}
   {dp un : Nat} {gd : Option (List Code)} {cn : Str} {cs : Scope} {a : Addr} {ccd : Value} {cl : List (Str × Addr)} {outer : List Env} {A₀ : Around} {base h₀ : Heap} {L : Addr} {m : Str → Option Value} {news : List (Addr × Obj)} {s : Shared} {Q E : Value → Shared → Prop}
   (B : Below A₀ base outer h₀) (F : Fr h₀ L s.heap m) (X : (Mine.hd.heap_39 w.params).In h₀) (N : News h₀ L s.heap news) (T : Top Mine.hd.view_39 loose mean mg mb h₀) (hk : cs.kind = .function)
include B F X N T hk
theorem t_sqrem {x : Int} {k1 : Tok} (hd : dp + 2 < recursionLimit) (hu : un + 16 < cLine) (h0 : 0 < x) (hb : bI x ≤ 500)
   (hret : ∀ r : Int, 0 < r → r * r ≤ x → x < (r + 1) * (r + 1) → bI r ≤ 600 → RetT h₀ L m news s Q (fun o => ∃ c t1 t2, o = { cls := .type "tuple", data := .seq #[.int r t1, .int (x - r * r) t2] c })) :
   wpAny (model PySem.Challenge.rw_aa5011_01.row.prog w) (ktrTop dp un gd cn cs L a ccd cl outer) (call (.ref 35) [.int x k1]) Q E s := by
  revert X; k_fill; intro X
  refine wpAny_call ?_
  k_dflt cell_enter
  walk_at "my steps"
  all_goals exact hret _ (by assumption) (by assumption) (by assumption) (by assumption) _ _ _ _ ⟨_, _, _, rfl⟩ (by assumption) (by assumption)
end
local macro_rules | `(tactic| walk_at "call ref") => `(tactic| (k_here; (with_reducible show wpAny _ _ (call (Value.ref 35) _) _ _ _); k_dflt (refine' t_sqrem ?k1 ?k2 ?k3 ?k4 ?k5 ?k6 ?k7 ?k8 ?q1 ?q2 ?_; (case k1 => k_asm); (case k2 => k_asm); (case k3 => k_asm); (case k4 => k_asm); (case k5 => k_asm); (case k6 => first | exact rfl | assumption); (case k7 => ktr_room); (case k8 => ktr_units); (case q1 => walk_at "my nn"); (case q2 => walk_at "my nn"); k_whole); intro r9 hr1 hr2 hr3 hr4 D9 o9 h9 tk9 P9 F9 N9; obtain ⟨c9, ta9, tb9, hq9⟩ := P9; subst hq9; (try dsimp only); (try k_fold)))
section
variable {w : World} {loose : List Str} {mean : ExcName → Option Value} {mg mb : Str → Option Value}
   {dp un : Nat} {gd : Option (List Code)} {cn : Str} {cs : Scope} {a : Addr} {ccd : Value} {cl : List (Str × Addr)} {outer : List Env} {A₀ : Around} {base h₀ : Heap} {L : Addr} {m : Str → Option Value} {news : List (Addr × Obj)} {s : Shared} {Q E : Value → Shared → Prop}
   (B : Below A₀ base outer h₀) (F : Fr h₀ L s.heap m) (X : (Mine.hd.heap_39 w.params).In h₀) (N : News h₀ L s.heap news) (T : Top Mine.hd.view_39 loose mean mg mb h₀) (hk : cs.kind = .function)
include B F X N T hk
theorem t_isqrt {x : Int} {k1 : Tok} (hd : dp + 3 < recursionLimit) (hu : un + 24 < cLine) (h0 : 0 < x) (hb : bI x ≤ 500)
   (hret : ∀ r : Int, 0 < r → r * r ≤ x → x < (r + 1) * (r + 1) → bI r ≤ 600 → Ret1 h₀ L m news s Q (fun t => Value.int r t)) :
   wpAny (model PySem.Challenge.rw_aa5011_01.row.prog w) (ktrTop dp un gd cn cs L a ccd cl outer) (call (.ref 42) [.int x k1]) Q E s := by
  revert X; k_fill; intro X
  refine wpAny_call ?_
  k_dflt cell_enter
  walk_at "my steps"
  all_goals exact hret _ (by assumption) (by assumption) (by assumption) (by assumption) _ _ _ (by assumption) (cb_drop (by assumption) (fun p hp => .tail _ hp))
end
/-! E0 -/
section
open PySem.SeqAt
variable {prog : Program} {w : World} {A : Around} {E : Value → Shared → Prop} {s : Shared} {Q : Value → Shared → Prop}
   {D1 D2 : Addr} {c c' : Nat} {a b d e a' b' d' e' : Int} {t1 t2 t3 t4 u1 u2 u3 u4 : Tok}
abbrev d4 (a b d e : Int) : PyData := .tuple [.int a, .int b, .int d, .int e]
theorem reads4 {h : Heap} (hg : h.get? D1 = some (tup4 c a t1 b t2 d t3 e t4)) : Reads h (.ref D1) (d4 a b d e) [] :=
  Reads.tuple hg rfl rfl (ReadsAll.cons (Reads.int _ _) (ReadsAll.cons (Reads.int _ _) (ReadsAll.cons (Reads.int _ _) (ReadsAll.cons (Reads.int _ _) ReadsAll.nil))))
theorem shaped4 : shaped (d4 a b d e) = true := by
  simp [shaped, PyData.canLay0, PyData.canLayAll0, PyData.depth, PyData.depthAll]
theorem eqv4 : PyData.eqv (d4 a b d e) (d4 a' b' d' e') = decide (a = a' ∧ b = b' ∧ d = d' ∧ e = e') := by
  simp only [PyData.eqv, PyData.eqvAll]
  by_cases h1 : a = a' <;> by_cases h2 : b = b' <;> by_cases h3 : d = d' <;> by_cases h4 : e = e' <;> simp [h1, h2, h3, h4]
theorem eq4 (h1 : s.heap.get? D1 = some (tup4 c a t1 b t2 d t3 e t4)) (h2 : s.heap.get? D2 = some (tup4 c' a' u1 b' u2 d' u3 e' u4)) (hu : A.units + 64 < cLine)
    (h : Q (.bool (decide (a = a' ∧ b = b' ∧ d = d' ∧ e = e'))) s) : wpAny (model prog w) A (compareOp .Eq (.ref D1) (.ref D2)) Q E s :=
  PyProof.Rows.eq_dataH (reads4 h1) (reads4 h2) shaped4 shaped4 hu (by rw [eqv4]; exact h)
theorem ne4 (h1 : s.heap.get? D1 = some (tup4 c a t1 b t2 d t3 e t4)) (h2 : s.heap.get? D2 = some (tup4 c' a' u1 b' u2 d' u3 e' u4)) (hu : A.units + 64 < cLine)
    (h : Q (.bool (!decide (a = a' ∧ b = b' ∧ d = d' ∧ e = e'))) s) : wpAny (model prog w) A (compareOp .NotEq (.ref D1) (.ref D2)) Q E s :=
  PyProof.Rows.ne_dataH (reads4 h1) (reads4 h2) shaped4 shaped4 hu (by rw [eqv4]; exact h)
theorem eq4F (h1 : s.heap.get? D1 = some (tup4 c a t1 b t2 d t3 e t4)) (h2 : s.heap.get? D2 = some (tup4 c' a' u1 b' u2 d' u3 e' u4)) (hu : A.units + 64 < cLine)
    (hne : ¬ (a = a' ∧ b = b' ∧ d = d' ∧ e = e')) (h : Q (.bool false) s) : wpAny (model prog w) A (compareOp .Eq (.ref D1) (.ref D2)) Q E s :=
  eq4 h1 h2 hu (by rw [decide_eq_false hne]; exact h)
theorem ne4F (h1 : s.heap.get? D1 = some (tup4 c a t1 b t2 d t3 e t4)) (h2 : s.heap.get? D2 = some (tup4 c' a' u1 b' u2 d' u3 e' u4)) (hu : A.units + 64 < cLine)
    (he : a = a' ∧ b = b' ∧ d = d' ∧ e = e') (h : Q (.bool false) s) : wpAny (model prog w) A (compareOp .NotEq (.ref D1) (.ref D2)) Q E s :=
  ne4 h1 h2 hu (by rw [decide_eq_true he]; exact h)
end
section
variable {prog : Program} {w : World} {A : Around} {E : Value → Shared → Prop} {s : Shared} {Q : Value → Shared → Prop} {a b : Int} {t u : Tok} {h₀ : Heap} {L : Addr} {m : Str → Option Value} {news : List (Addr × Obj)}
abbrev tupI2 (x : Int) (t : Tok) (y : Int) (u : Tok) : Obj := { cls := .type "tuple", data := .seq #[.int x t, .int y u] }
theorem r_divmod (F : Fr h₀ L s.heap m) (N : News h₀ L s.heap news) (hb : 0 < b) (hs : bI b ≤ 8000)
    (h : ∀ D t1 t2 h' tk', Fr h₀ L h' m → News h₀ L h' ((D, tupI2 (a / b) t1 (a % b) t2) :: news) → Q (.ref D) { s with heap := h', toks := tk' }) :
    wpAny (model prog w) A (call (.builtin "divmod") [.int a t, .int b u]) Q E s :=
  divmod_N F N (by omega) (fun h' F' N' => h _ _ _ h' _ F' (by rw [Int.fdiv_eq_ediv_of_nonneg _ (by omega), Int.fmod_eq_emod_of_nonneg _ (by omega)] at N'; exact N')) (Or.inl (nopy hs))
end
local macro_rules | `(tactic| walk_at "call builtin:divmod") => `(tactic| (k_here; (with_reducible show wpAny _ _ (call (Value.builtin "divmod") [Value.int _ _, Value.int _ _]) _ _ _); k_dflt ((refine' r_divmod ?h1 ?h2 ?h3 ?h4 ?_); (case h1 => k_asm); (case h2 => k_asm); (case h3 => walk_at "my nn"); (case h4 => walk_at "my nn"); k_whole); intro D9 u8 u9 h9 tk9 F9 N9; (try dsimp only); (try k_fold)))
local macro_rules | `(tactic| walk_at "my get") => `(tactic| (first | exact News.get (by k_asm) (by first | assumption | k_mem) | exact (show Frag.In _ _ from by k_in) _ _ (by k_is) | exact Fr.keep (by k_asm) _ _ (News.get (by k_asm) (by assumption)) | assumption))
local macro_rules | `(tactic| walk_at "compareOp Eq ref ref") => `(tactic| (k_here; k_dflt ((refine' eq4F ?h1 ?h2 ?hu ?hne ?_); (case h1 => walk_at "my get"); (case h2 => walk_at "my get"); (case hu => ktr_units); (case hne => omega))))
/-! C9 -/
local macro_rules | `(tactic| walk_at "call ref") => `(tactic| (k_here; (with_reducible show wpAny _ _ (call (Value.ref 93) _) _ _ _); k_dflt (refine' t_cmp ?k1 ?k2 ?k3 ?k4 ?k5 ?k6 ?k7 ?k8 ?q1 ?q2 ?q3 ?q4 ?q5 ?q6 ?q7 ?q8 ?_; (case k1 => k_asm); (case k2 => k_asm); (case k3 => k_asm); (case k4 => k_asm); (case k5 => k_asm); (case k6 => first | exact rfl | assumption); (case k7 => ktr_room); (case k8 => ktr_units); (case q1 => walk_at "my mem"); (case q2 => walk_at "my mem"); (case q3 => assumption); (case q4 => assumption); (case q5 => assumption); (case q6 => assumption); (case q7 => assumption); (case q8 => assumption); k_whole); intro t9 h9 tk9 F9 N9; (try dsimp only); (try k_fold)))
theorem bitXor00 : Builtin.bitXor 0 0 = 0 := by decide +kernel
section
variable {w : World} {loose : List Str} {mean : ExcName → Option Value} {mg mb : Str → Option Value}
   {dp un : Nat} {gd : Option (List Code)} {cn : Str} {cs : Scope} {a : Addr} {ccd : Value} {cl : List (Str × Addr)} {outer : List Env} {A₀ : Around} {base h₀ : Heap} {L : Addr} {m : Str → Option Value} {news : List (Addr × Obj)} {s : Shared} {Q E : Value → Shared → Prop}
   (B : Below A₀ base outer h₀) (F : Fr h₀ L s.heap m) (X : (Mine.hd.heap_39 w.params).In h₀) (N : News h₀ L s.heap news) (T : Top Mine.hd.view_39 loose mean mg mb h₀) (hk : cs.kind = .function)
include B F X N T hk
theorem t_lt {D1 D2 : Nat} {o1 o2 : Obj} {M1 M2 : Nat} {E0 : Int} (hd : dp + 7 < recursionLimit) (hu : un + 500 < cLine)
   (hs : (D1, o1) ∈ news) (ht : (D2, o2) ∈ news) (i1 : IsSg o1 0 M1 E0) (i2 : IsSg o2 0 M2 E0)
   (h1 : 0 < M1) (h2 : 0 < M2) (b1 : bl M1 ≤ 100) (b2 : bl M2 ≤ 100)
   (hret : Ret1 h₀ L m news s Q (fun _ => Value.bool (decide (M1 < M2)))) :
   wpAny (model PySem.Challenge.rw_aa5011_01.row.prog w) (ktrTop dp un gd cn cs L a ccd cl outer) (call (.ref 100) [.ref D1, .ref D2]) Q E s := by
  revert X; k_fill; intro X
  have i1' := i1
  have i2' := i2
  obtain ⟨c1, a1, a2, a3, a4, rfl⟩ := i1
  obtain ⟨c2, b1', b2', b3, b4, rfl⟩ := i2
  have y1 := odI_pos h1
  have y2 := odI_pos h2
  have e : decide (cmpI M1 M2 < 0) = decide (M1 < M2) := by
    unfold cmpI; split <;> (try split) <;> simp <;> omega
  refine wpAny_call ?_
  k_dflt walk_at "my enter"
  walk_at "my steps"
  all_goals first | exact cb_retB hret e (by assumption) (by assumption) | (exfalso; omega)
theorem t_mul {D1 D2 : Nat} {o1 o2 : Obj} {M1 M2 : Nat} {E1 E2 : Int} (hd : dp + 1 < recursionLimit) (hu : un + 8 < cLine)
   (hs : (D1, o1) ∈ news) (ht : (D2, o2) ∈ news) (i1 : IsSg o1 0 M1 E1) (i2 : IsSg o2 0 M2 E2)
   (h1 : 0 < M1) (h2 : 0 < M2) (b1 : bl M1 ≤ 100) (b2 : bl M2 ≤ 100)
   (hret : RetT h₀ L m news s Q (fun o => IsSg o 0 ((M1 * M2 : Nat) : Int) (E1 + E2))) :
   wpAny (model PySem.Challenge.rw_aa5011_01.row.prog w) (ktrTop dp un gd cn cs L a ccd cl outer) (call (.ref 139) [.ref D1, .ref D2]) Q E s := by
  revert X; k_fill; intro X
  obtain ⟨c1, a1, a2, a3, a4, rfl⟩ := i1
  obtain ⟨c2, b1', b2', b3, b4, rfl⟩ := i2
  have y1 := odI_pos h1
  have y2 := odI_pos h2
  have x1 := bI_od_le h1 b1
  have x2 := bI_od_le h2 b2
  have z1 := nzp (Int.mul_pos y1 y2)
  refine wpAny_call ?_
  k_dflt walk_at "my enter"
  walk_at "my steps"
  all_goals ((rename RetT _ _ _ _ _ _ _ => hr); refine' hr _ _ _ _ ?hP ?hF ?hN; (case hF => assumption); (case hN => assumption); (case hP => rw [bitXor00]; exact isSg_mul h1 h2))
end
/-! C10 -/
local macro_rules | `(tactic| walk_at "my pass") => `(tactic| ((rename RetT _ _ _ _ _ _ _ => hr); refine' hr _ _ _ _ ?hP ?hF ?hN; (case hF => assumption); (case hP => assumption); (case hN => refine' cb_drop ?cbN ?cbS; (case cbN => assumption); (case cbS => walk_at "my sub"))))
section
variable {w : World} {loose : List Str} {mean : ExcName → Option Value} {mg mb : Str → Option Value}
   {dp un : Nat} {gd : Option (List Code)} {cn : Str} {cs : Scope} {a : Addr} {ccd : Value} {cl : List (Str × Addr)} {outer : List Env} {A₀ : Around} {base h₀ : Heap} {L : Addr} {m : Str → Option Value} {news : List (Addr × Obj)} {s : Shared} {Q E : Value → Shared → Prop}
   (B : Below A₀ base outer h₀) (F : Fr h₀ L s.heap m) (X : (Mine.hd.heap_39 w.params).In h₀) (N : News h₀ L s.heap news) (T : Top Mine.hd.view_39 loose mean mg mb h₀) (hk : cs.kind = .function)
include B F X N T hk
theorem t_sign {D1 : Nat} {o1 : Obj} {M1 : Nat} {E1 : Int} (hd : dp + 1 < recursionLimit) (hu : un + 8 < cLine)
   (hs : (D1, o1) ∈ news) (i1 : IsSg o1 0 M1 E1) (h1 : 0 < M1)
   (hret : Ret1 h₀ L m news s Q (fun t => Value.int 1 t)) :
   wpAny (model PySem.Challenge.rw_aa5011_01.row.prog w) (ktrTop dp un gd cn cs L a ccd cl outer) (call (.ref 115) [.ref D1]) Q E s := by
  revert X; k_fill; intro X
  obtain ⟨c1, a1, a2, a3, a4, rfl⟩ := i1
  have z1 := nzp (odI_pos h1)
  refine wpAny_call ?_
  k_dflt walk_at "my enter"
  walk_at "my steps"
  all_goals first | exact cb_retI hret (by decide) (by assumption) (by assumption)
theorem t_delta {P1 D1 D2 cp : Nat} {o1 o2 : Obj} {M1 M2 : Nat} {E0 prec : Int} {k1 : Tok} (hd : dp + 6 < recursionLimit) (hu : un + 48 < cLine)
   (hpp : (P1, tup2 cp (.ref D1) (.ref D2)) ∈ news) (hs : (D1, o1) ∈ news) (ht : (D2, o2) ∈ news) (i1 : IsSg o1 0 M1 E0) (i2 : IsSg o2 0 M2 E0)
   (h1 : 0 < M1) (h2 : 0 < M2) (b1 : bl M1 ≤ 100) (b2 : bl M2 ≤ 100) (hlt : M1 < M2) (hp : 1 ≤ prec)
   (hret : RetT h₀ L m news s Q (fun o => IsSg o 0 (rdI 1 ((M2 - M1 : Nat) : Int) prec) (E0 + shI ((M2 - M1 : Nat) : Int) prec))) :
   wpAny (model PySem.Challenge.rw_aa5011_01.row.prog w) (ktrTop dp un gd cn cs L a ccd cl outer) (call (.ref 169) [.ref P1, .int prec k1]) Q E s := by
  revert X; k_fill; intro X
  have hM : Mode 0 117 1 := by simp [Mode]
  refine wpAny_call ?_
  k_dflt walk_at "my enter"
  walk_at "my steps"
  all_goals walk_at "my pass"
end
local macro_rules | `(tactic| walk_at "call ref") => `(tactic| (k_here; (with_reducible show wpAny _ _ (call (Value.ref 146) _) _ _ _); k_dflt ((refine' t_shift ?k1 ?k2 ?k3 ?k4 ?k5 ?k6 ?k7 ?k8 ?q1 ?q2 ?q3 ?_); (case k1 => k_asm); (case k2 => k_asm); (case k3 => k_asm); (case k4 => k_asm); (case k5 => k_asm); (case k6 => first | exact rfl | assumption); (case k7 => ktr_room); (case k8 => ktr_units); (case q1 => walk_at "my mem"); (case q2 => assumption); (case q3 => first | assumption | exact rdI_pos (by assumption) (by omega)); walk_at "my after")))
section
variable {w : World} {loose : List Str} {mean : ExcName → Option Value} {mg mb : Str → Option Value}
   {dp un : Nat} {gd : Option (List Code)} {cn : Str} {cs : Scope} {a : Addr} {ccd : Value} {cl : List (Str × Addr)} {outer : List Env} {A₀ : Around} {base h₀ : Heap} {L : Addr} {m : Str → Option Value} {news : List (Addr × Obj)} {s : Shared} {Q E : Value → Shared → Prop}
   (B : Below A₀ base outer h₀) (F : Fr h₀ L s.heap m) (X : (Mine.hd.heap_39 w.params).In h₀) (N : News h₀ L s.heap news) (T : Top Mine.hd.view_39 loose mean mg mb h₀) (hk : cs.kind = .function)
include B F X N T hk
theorem t_mid {P1 D1 D2 cp : Nat} {o1 o2 : Obj} {M1 M2 : Nat} {E0 prec : Int} {k1 : Tok} (hd : dp + 5 < recursionLimit) (hu : un + 40 < cLine)
   (hpp : (P1, tup2 cp (.ref D1) (.ref D2)) ∈ news) (hs : (D1, o1) ∈ news) (ht : (D2, o2) ∈ news) (i1 : IsSg o1 0 M1 E0) (i2 : IsSg o2 0 M2 E0)
   (h1 : 0 < M1) (h2 : 0 < M2) (b1 : bl M1 ≤ 100) (b2 : bl M2 ≤ 100) (hp : 1 ≤ prec)
   (hret : RetT h₀ L m news s Q (fun o => IsSg o 0 (rdI 2 ((M1 + M2 : Nat) : Int) prec) (E0 + shI ((M1 + M2 : Nat) : Int) prec + (-1)))) :
   wpAny (model PySem.Challenge.rw_aa5011_01.row.prog w) (ktrTop dp un gd cn cs L a ccd cl outer) (call (.ref 176) [.ref P1, .int prec k1]) Q E s := by
  revert X; k_fill; intro X
  have hM : Mode 0 110 2 := by simp [Mode]
  refine wpAny_call ?_
  k_dflt walk_at "my enter"
  walk_at "my steps"
  all_goals walk_at "my pass"
end
/-! C11 -/
section
variable {w : World} {loose : List Str} {mean : ExcName → Option Value} {mg mb : Str → Option Value}
   {dp un : Nat} {gd : Option (List Code)} {cn : Str} {cs : Scope} {a : Addr} {ccd : Value} {cl : List (Str × Addr)} {outer : List Env} {A₀ : Around} {base h₀ : Heap} {L : Addr} {m : Str → Option Value} {news : List (Addr × Obj)} {s : Shared} {Q E : Value → Shared → Prop}
   (B : Below A₀ base outer h₀) (F : Fr h₀ L s.heap m) (X : (Mine.hd.heap_39 w.params).In h₀) (N : News h₀ L s.heap news) (T : Top Mine.hd.view_39 loose mean mg mb h₀) (hk : cs.kind = .function)
include B F X N T hk
theorem t_div_raw {D1 D2 c1 c2 : Nat} {sm se sb tm te tb prec ex : Int} {a1 a2 a3 a4 b1 b2 b3 b4 k1 k2 : Tok} {code k : Nat} (hd : dp + 4 < recursionLimit) (hu : un + 32 < cLine)
   (hs : (D1, tup4 c1 0 a1 sm a2 se a3 sb a4) ∈ news) (ht : (D2, tup4 c2 0 b1 tm b2 te b3 tb b4) ∈ news)
   (h1 : 0 < sm) (h2 : 1 < tm) (hsb : bI sm = sb) (htb : bI tm = tb) (h5 : bI sm ≤ 100) (h5' : bI tm ≤ 100) (hp : 1 ≤ prec) (hp2 : prec ≤ 100) (hm : Mode 0 code k)
   (hex : ex = if prec - sb + tb + 5 < 5 then 5 else prec - sb + tb + 5) (hq1 : 0 < shl sm ex / tm) (hq2 : bI (shl sm ex / tm) ≤ 500) (hq3 : 0 < shl (shl sm ex / tm) 1 + 1) (hq4 : bI (shl (shl sm ex / tm) 1 + 1) ≤ 600)
   (hret : ∀ N X, ((shl sm ex % tm = 0 ∧ N = shl sm ex / tm ∧ X = ex) ∨ (shl sm ex % tm ≠ 0 ∧ N = shl (shl sm ex / tm) 1 + 1 ∧ X = ex + 1)) →
     RetT h₀ L m news s Q (fun o => IsSg o 0 (rdI k N prec) (se - te - X + shI N prec))) :
   wpAny (model PySem.Challenge.rw_aa5011_01.row.prog w) (ktrTop dp un gd cn cs L a ccd cl outer) (call (.ref 154) [.ref D1, .ref D2, .int prec k1, .str ⟨#[code]⟩ k2]) Q E s := by
  revert X; k_fill; intro X
  have z1 := nzp h1
  have z2 := nzp (show 0 < tm by omega)
  have z3 : (tm == 1) = false := by simp; omega
  have z4 : (prec != 0) = true := nz (by omega)
  have z5 := bitXor00
  split at hex
  all_goals (
    subst hex
    refine wpAny_call ?_
    k_dflt walk_at "my enter"
    walk_at "my steps"
    all_goals first
      | exact hret _ _ (Or.inl ⟨by assumption, rfl, rfl⟩) _ _ _ _ (by assumption) (by assumption) (cb_drop (by assumption) (by walk_at "my sub"))
      | exact hret _ _ (Or.inr ⟨by assumption, rfl, rfl⟩) _ _ _ _ (by assumption) (by assumption) (cb_drop (by assumption) (by walk_at "my sub")))
theorem t_div_one {D1 D2 c1 c2 : Nat} {sm se sb te tb prec : Int} {a1 a2 a3 a4 b1 b2 b3 b4 k1 k2 : Tok} {code k : Nat} (hd : dp + 4 < recursionLimit) (hu : un + 32 < cLine)
   (hs : (D1, tup4 c1 0 a1 sm a2 se a3 sb a4) ∈ news) (ht : (D2, tup4 c2 0 b1 1 b2 te b3 tb b4) ∈ news)
   (h1 : 0 < sm) (hsb : bI sm = sb) (h5 : bI sm ≤ 100) (hp : 1 ≤ prec) (hm : Mode 0 code k)
   (hret : RetT h₀ L m news s Q (fun o => IsSg o 0 (rdI k sm prec) (se - te + shI sm prec))) :
   wpAny (model PySem.Challenge.rw_aa5011_01.row.prog w) (ktrTop dp un gd cn cs L a ccd cl outer) (call (.ref 154) [.ref D1, .ref D2, .int prec k1, .str ⟨#[code]⟩ k2]) Q E s := by
  revert X; k_fill; intro X
  have z1 := nzp h1
  have z4 : (prec != 0) = true := nz (by omega)
  refine wpAny_call ?_
  k_dflt walk_at "my enter"
  walk_at "my steps"
  all_goals first | walk_at "my pass"
end
/-! M5 -/
/-- a number with its first p bits known -/
theorem rd_of {N p Y n : Nat} (hp : 1 ≤ p) (hY1 : 2 ^ (p - 1) ≤ Y) (hY2 : Y < 2 ^ p) (h : Y * 2 ^ n ≤ N) (h' : N < (Y + 1) * 2 ^ n) : rsh N p = n ∧ N / 2 ^ n = Y := by
  have hn := pos2 n
  have e : N / 2 ^ n = Y := by
    rw [Nat.div_eq_iff hn]
    rw [Nat.add_mul, Nat.one_mul] at h'
    omega
  refine ⟨?_, e⟩
  have h1 : 2 ^ (p - 1 + n) ≤ N := by rw [Nat.pow_add]; exact Nat.le_trans (Nat.mul_le_mul_right _ hY1) h
  have h2 : N < 2 ^ (p + n) := by
    rw [Nat.pow_add]
    exact Nat.lt_of_lt_of_le h' (Nat.mul_le_mul_right _ hY2)
  have h3 : 0 < N := Nat.lt_of_lt_of_le (pos2 _) h1
  have := (bl_iff (k := p - 1 + n) h3).mpr ⟨h1, by rw [show p - 1 + n + 1 = p + n by omega]; exact h2⟩
  unfold rsh; omega
/-- which of the two the rounding takes: k 0 the lower, 1 the upper but where it is just the lower -/
def ansK (k Y : Nat) (eq : Prop) [Decidable eq] : Nat := if k = 0 then Y else if eq then Y else Y + 1
theorem rd_ans {N p Y n k : Nat} (hk : k = 0 ∨ k = 1) (hp : 1 ≤ p) (hY1 : 2 ^ (p - 1) ≤ Y) (hY2 : Y < 2 ^ p) (h : Y * 2 ^ n ≤ N) (h' : N < (Y + 1) * 2 ^ n) :
    rsh N p = n ∧ rd k N p = ansK k Y (N = Y * 2 ^ n) := by
  obtain ⟨h1, h2⟩ := rd_of hp hY1 hY2 h h'
  refine ⟨h1, ?_⟩
  have h3 := Nat.div_add_mod N (2 ^ n)
  rw [h2, Nat.mul_comm] at h3
  rcases hk with rfl | rfl
  · unfold rd ansK; rw [h1, h2]; simp
  · unfold rd ansK; rw [h1, h2]
    simp only [Nat.one_ne_zero, if_false, if_true]
    by_cases h4 : N % 2 ^ n = 0
    · rw [if_pos h4, if_pos (by omega)]
    · rw [if_neg h4, if_neg (by omega)]
theorem ansK_congr {k Y : Nat} {p q : Prop} [Decidable p] [Decidable q] (h : p ↔ q) : ansK k Y p = ansK k Y q := by
  unfold ansK
  by_cases hp : p
  · rw [if_pos hp, if_pos (h.mp hp)]
  · rw [if_neg hp, if_neg (fun hq => hp (h.mpr hq))]
/-- the quotient of the program, told by its answer -/
theorem div_ans {sm tm a b ex Y : Nat} (ht : 0 < tm) (h : Y * (tm * 2 ^ b) ≤ sm * 2 ^ a) (h' : sm * 2 ^ a < (Y + 1) * (tm * 2 ^ b)) (hq : Y < sm * 2 ^ ex / tm) :
    ∃ n, n + a = b + ex ∧ Y * 2 ^ n ≤ sm * 2 ^ ex / tm ∧ sm * 2 ^ ex / tm < (Y + 1) * 2 ^ n ∧ ((sm * 2 ^ ex % tm = 0 ∧ sm * 2 ^ ex / tm = Y * 2 ^ n) ↔ sm * 2 ^ a = Y * (tm * 2 ^ b)) := by
  generalize hS : sm * 2 ^ ex = S at *
  have k1 : Y * tm * 2 ^ (b + ex) ≤ S * 2 ^ a := by
    have := Nat.mul_le_mul_right (2 ^ ex) h
    rw [← hS, Nat.pow_add]
    calc Y * tm * (2 ^ b * 2 ^ ex) = Y * (tm * 2 ^ b) * 2 ^ ex := by ac_rfl
      _ ≤ sm * 2 ^ a * 2 ^ ex := this
      _ = sm * 2 ^ ex * 2 ^ a := by ac_rfl
  have k2 : S * 2 ^ a < (Y + 1) * tm * 2 ^ (b + ex) := by
    have := Nat.mul_lt_mul_of_pos_right h' (pos2 ex)
    rw [← hS, Nat.pow_add]
    calc sm * 2 ^ ex * 2 ^ a = sm * 2 ^ a * 2 ^ ex := by ac_rfl
      _ < (Y + 1) * (tm * 2 ^ b) * 2 ^ ex := this
      _ = (Y + 1) * tm * (2 ^ b * 2 ^ ex) := by ac_rfl
  have k3 : sm * 2 ^ a = Y * (tm * 2 ^ b) ↔ S * 2 ^ a = Y * tm * 2 ^ (b + ex) := by
    rw [← hS, Nat.pow_add]
    have e1 : sm * 2 ^ ex * 2 ^ a = sm * 2 ^ a * 2 ^ ex := by ac_rfl
    have e2 : Y * tm * (2 ^ b * 2 ^ ex) = Y * (tm * 2 ^ b) * 2 ^ ex := by ac_rfl
    rw [e1, e2]
    exact (Nat.mul_left_inj (by have := pos2 ex; omega)).symm
  have hle : a ≤ b + ex := by
    refine Nat.le_of_not_lt fun hc => ?_
    have h1 : 2 ^ (b + ex) ≤ 2 ^ a := Nat.pow_le_pow_right (by omega) (by omega)
    have h2 : S * 2 ^ (b + ex) < (Y + 1) * tm * 2 ^ (b + ex) := Nat.lt_of_le_of_lt (Nat.mul_le_mul_left _ h1) k2
    have h3 : S < (Y + 1) * tm := Nat.lt_of_mul_lt_mul_right h2
    have := (Nat.div_lt_iff_lt_mul ht).mpr h3
    omega
  obtain ⟨n, hn⟩ : ∃ n, n + a = b + ex := ⟨b + ex - a, by omega⟩
  have hpa := pos2 a
  have e9 : ∀ x : Nat, x * (2 ^ n * 2 ^ a) = x * 2 ^ n * 2 ^ a := fun x => (Nat.mul_assoc _ _ _).symm
  rw [← hn, Nat.pow_add, e9] at k1 k2 k3
  have k1' : Y * tm * 2 ^ n ≤ S := Nat.le_of_mul_le_mul_right k1 hpa
  have k2' : S < (Y + 1) * tm * 2 ^ n := Nat.lt_of_mul_lt_mul_right k2
  have k3' : sm * 2 ^ a = Y * (tm * 2 ^ b) ↔ S = Y * tm * 2 ^ n := k3.trans (Nat.mul_left_inj (by omega))
  refine ⟨n, hn, ?_, ?_, ?_⟩
  · rw [Nat.le_div_iff_mul_le ht]; calc Y * 2 ^ n * tm = Y * tm * 2 ^ n := by ac_rfl
      _ ≤ S := k1'
  · rw [Nat.div_lt_iff_lt_mul ht]; calc S < (Y + 1) * tm * 2 ^ n := k2'
      _ = (Y + 1) * 2 ^ n * tm := by ac_rfl
  · rw [k3']
    have h3 := Nat.div_add_mod S tm
    constructor
    · rintro ⟨h4, h5⟩
      rw [h4, h5] at h3
      rw [← h3]; ac_rfl
    · intro h4
      have h5 : S = Y * 2 ^ n * tm := by rw [h4]; ac_rfl
      rw [h5, Nat.mul_mod_left, Nat.mul_div_cancel _ ht]
      exact ⟨rfl, rfl⟩
theorem div_big {sm tm p ex : Nat} (hs : 0 < sm) (ht : 0 < tm) (hex : p + bl tm + 4 ≤ bl sm - 1 + ex) : 2 ^ p ≤ sm * 2 ^ ex / tm := by
  rw [Nat.le_div_iff_mul_le ht]
  have h1 := bl_low hs
  have h2 := bl_high tm
  calc 2 ^ p * tm ≤ 2 ^ p * 2 ^ bl tm := Nat.mul_le_mul_left _ (Nat.le_of_lt h2)
    _ = 2 ^ (p + bl tm) := by rw [Nat.pow_add]
    _ ≤ 2 ^ (bl sm - 1 + ex) := Nat.pow_le_pow_right (by omega) (by omega)
    _ = 2 ^ (bl sm - 1) * 2 ^ ex := by rw [Nat.pow_add]
    _ ≤ sm * 2 ^ ex := Nat.mul_le_mul_right _ h1
/-- the end of a quotient: the sticky bit -/
theorem sticky {q p Y n k r : Nat} (hk : k = 0 ∨ k = 1) (hp : 1 ≤ p) (hY1 : 2 ^ (p - 1) ≤ Y) (hY2 : Y < 2 ^ p) (h : Y * 2 ^ n ≤ q) (h' : q < (Y + 1) * 2 ^ n) :
    (r = 0 → rsh q p = n ∧ rd k q p = ansK k Y (r = 0 ∧ q = Y * 2 ^ n)) ∧ (r ≠ 0 → rsh (q * 2 + 1) p = n + 1 ∧ rd k (q * 2 + 1) p = ansK k Y (r = 0 ∧ q = Y * 2 ^ n)) := by
  constructor
  · intro hr
    have := rd_ans hk hp hY1 hY2 h h'
    refine ⟨this.1, this.2.trans (ansK_congr ?_)⟩
    exact ⟨fun x => ⟨hr, x⟩, fun x => x.2⟩
  · intro hr
    have e : ∀ x : Nat, x * 2 ^ (n + 1) = x * 2 ^ n * 2 := fun x => by rw [Nat.pow_succ, Nat.mul_assoc]
    have := @rd_ans (q * 2 + 1) p Y (n + 1) k hk hp hY1 hY2 (by rw [e]; omega) (by rw [e]; omega)
    refine ⟨this.1, this.2.trans (ansK_congr ?_)⟩
    rw [e]
    exact ⟨fun x => by omega, fun x => absurd x.1 hr⟩
/-! C12 -/
theorem shl_one_nat {q : Nat} : shl (q : Int) 1 + 1 = ((q * 2 + 1 : Nat) : Int) := by
  rw [show (1 : Int) = ((1 : Nat) : Int) from rfl, shl_nat, Nat.pow_one]; omega
/-- the end: a number of the answer's worth -/
theorem isSg_ans {o : Obj} {k N p A n : Nat} {F G : Int} (h : rsh N p = n ∧ rd k N p = A) (hF : F + n = G) (x : IsSg o 0 (rdI k N p) (F + shI N p)) : IsSg o 0 A G := by
  rw [rdI_def, shI_def, Int.toNat_natCast, Int.toNat_natCast, h.1, h.2, hF] at x
  exact x
section
variable {w : World} {loose : List Str} {mean : ExcName → Option Value} {mg mb : Str → Option Value}
   {dp un : Nat} {gd : Option (List Code)} {cn : Str} {cs : Scope} {a : Addr} {ccd : Value} {cl : List (Str × Addr)} {outer : List Env} {A₀ : Around} {base h₀ : Heap} {L : Addr} {m : Str → Option Value} {news : List (Addr × Obj)} {s : Shared} {Q E : Value → Shared → Prop}
   (B : Below A₀ base outer h₀) (F : Fr h₀ L s.heap m) (X : (Mine.hd.heap_39 w.params).In h₀) (N : News h₀ L s.heap news) (T : Top Mine.hd.view_39 loose mean mg mb h₀) (hk : cs.kind = .function)
include B F X N T hk
theorem t_div {D1 D2 : Nat} {o1 o2 : Obj} {M1 M2 Y p : Nat} {E1 E2 G prec : Int} {k1 k2 : Tok} {code k : Nat} (hd : dp + 4 < recursionLimit) (hu : un + 32 < cLine)
   (hs : (D1, o1) ∈ news) (ht : (D2, o2) ∈ news) (i1 : IsSg o1 0 M1 E1) (i2 : IsSg o2 0 M2 E2)
   (h1 : 0 < M1) (h2 : 0 < M2) (b1 : bl M1 ≤ 100) (b2 : bl M2 ≤ 100) (hpp : prec = (p : Int)) (hp : 1 ≤ p) (hp2 : p ≤ 100) (hm : Mode 0 code k) (hkk : k = 0 ∨ k = 1)
   (hE : E1 = E2 + G) (hY1 : 2 ^ (p - 1) ≤ Y) (hY2 : Y < 2 ^ p) (hlo : Y * M2 ≤ M1) (hhi : M1 < (Y + 1) * M2)
   (hret : RetT h₀ L m news s Q (fun o => IsSg o 0 (ansK k Y (M1 = Y * M2)) G)) :
   wpAny (model PySem.Challenge.rw_aa5011_01.row.prog w) (ktrTop dp un gd cn cs L a ccd cl outer) (call (.ref 154) [.ref D1, .ref D2, .int prec k1, .str ⟨#[code]⟩ k2]) Q E s := by
  obtain ⟨c1, a1, a2, a3, a4, rfl⟩ := i1
  obtain ⟨c2, b1', b2', b3, b4, rfl⟩ := i2
  subst hpp
  have y1 := odI_pos h1
  have y2 := odI_pos h2
  have x1 := bI_od_le h1 b1
  have x2 := bI_od_le h2 b2
  have w1 : tzI (M1 : Int) = (tz M1 : Int) := by rw [tzI_def, Int.toNat_natCast]
  have w2 : tzI (M2 : Int) = (tz M2 : Int) := by rw [tzI_def, Int.toNat_natCast]
  have v1 : odI (M1 : Int) = (od M1 : Int) := by rw [odI_def, Int.toNat_natCast]
  have v2 : odI (M2 : Int) = (od M2 : Int) := by rw [odI_def, Int.toNat_natCast]
  have e1 := od_mul h1
  have e2 := od_mul h2
  have p1 := od_pos h1
  have p2 := od_pos h2
  have q1 := od_bl h1
  have q2 := od_bl h2
  rw [← e1, ← e2] at hlo hhi
  have hret' : ∀ A, A = ansK k Y (M1 = Y * M2) → RetT h₀ L m news s Q (fun o => IsSg o 0 A G) := fun A hA => by subst hA; exact hret
  have hp1 : Y < 2 ^ p := hY2
  by_cases h3 : od M2 = 1
  · rw [v2, h3] at ht
    rw [h3, Nat.one_mul] at hlo hhi e2
    refine t_div_one B F X N T hk hd hu hs ht y1 rfl (by omega) (by omega) hm ?_
    intro D o h' tk' P F' N'
    rw [v1] at P
    by_cases h4 : tz M1 ≤ tz M2
    · obtain ⟨n, hn⟩ : ∃ n, tz M2 = n + tz M1 := ⟨tz M2 - tz M1, by omega⟩
      have ha := pos2 (tz M1)
      rw [hn, Nat.pow_add, ← Nat.mul_assoc] at hlo hhi
      have l1 := Nat.le_of_mul_le_mul_right hlo ha
      have l2 := Nat.lt_of_mul_lt_mul_right hhi
      have l3 := rd_ans hkk hp hY1 hY2 l1 l2
      refine hret' _ ?_ D o h' tk' (isSg_ans l3 (by omega) P) F' N'
      refine ansK_congr ?_
      rw [← e2, hn, Nat.pow_add, ← Nat.mul_assoc]
      conv => rhs; lhs; rw [← e1]
      exact (Nat.mul_left_inj (by omega)).symm
    · obtain ⟨d, hd9⟩ : ∃ d, tz M1 = d + tz M2 := ⟨tz M1 - tz M2, by omega⟩
      have ha := pos2 (tz M2)
      rw [hd9, Nat.pow_add, ← Nat.mul_assoc] at hlo hhi
      have l1 := Nat.le_of_mul_le_mul_right hlo ha
      have l2 := Nat.lt_of_mul_lt_mul_right hhi
      have l3 : od M1 * 2 ^ d = Y := by omega
      have l4 : od M1 ≤ Y := by rw [← l3]; exact Nat.le_mul_of_pos_right _ (pos2 d)
      have l5 : rsh (od M1) p = 0 := by
        have := bl_le_of_lt (n := od M1) (k := p) (by omega)
        unfold rsh; omega
      have l6 : rd k (od M1) p = od M1 := rd_id (bl_le_of_lt (by omega))
      have P' : IsSg o 0 (od M1 : Int) (E1 + tzI (M1 : Int) - (E2 + tzI (M2 : Int)) + (0 : Nat)) := by
        have := isSg_ans (F := E1 + tzI (M1 : Int) - (E2 + tzI (M2 : Int))) (G := E1 + tzI (M1 : Int) - (E2 + tzI (M2 : Int)) + (0 : Nat)) ⟨l5, l6⟩ (by omega) P
        exact this
      have l7 : M1 = Y * M2 := by rw [← e2, ← l3, Nat.mul_assoc, ← Nat.pow_add, ← hd9, e1]
      refine hret' Y ?_ D o h' tk' ?_ F' N'
      · unfold ansK; rw [if_pos l7]; simp
      · have := @isSg_eq o 0 G (od M1) Y d 0 p1 (by omega) (by rw [l3]; simp)
        rw [show G = G + ((0 : Nat) : Int) by omega]
        refine this.mp ?_
        rw [show G + (d : Int) = E1 + tzI (M1 : Int) - (E2 + tzI (M2 : Int)) + (0 : Nat) by omega]
        exact P'
  · have hX : ∃ ex : Nat, (ex : Int) = (if (p : Int) - bI (odI M1) + bI (odI M2) + 5 < 5 then 5 else (p : Int) - bI (odI M1) + bI (odI M2) + 5) ∧ ex ≤ 210 ∧ p + bl (od M2) + 4 ≤ bl (od M1) - 1 + ex := by
      have g1 : bI (odI (M1 : Int)) = (bl (od M1) : Int) := by rw [v1, bI_nat]
      have g2 : bI (odI (M2 : Int)) = (bl (od M2) : Int) := by rw [v2, bI_nat]
      have g3 := bl_pos p1
      rw [g1, g2]
      split
      · exact ⟨5, rfl, by omega, by omega⟩
      · exact ⟨((p : Int) - bl (od M1) + bl (od M2) + 5).toNat, by omega, by omega, by omega⟩
    obtain ⟨ex, hx1, hx2, hx3⟩ := hX
    have hb := div_big p1 p2 hx3
    have hbl : bl (od M1 * 2 ^ ex / od M2) ≤ 310 := by
      refine Nat.le_trans (bl_mono (Nat.div_le_self _ _)) ?_
      have := bl_shift p1 ex
      omega
    have eq1 : shl (odI (M1 : Int)) (ex : Int) / odI (M2 : Int) = ((od M1 * 2 ^ ex / od M2 : Nat) : Int) := by rw [v1, v2, shl_nat]; rfl
    have eq2 : shl (odI (M1 : Int)) (ex : Int) % odI (M2 : Int) = ((od M1 * 2 ^ ex % od M2 : Nat) : Int) := by rw [v1, v2, shl_nat]; rfl
    obtain ⟨n, d1, d2, d3, d4⟩ := div_ans p2 hlo hhi (ex := ex) (by omega)
    have d5 := @sticky (od M1 * 2 ^ ex / od M2) p Y n k (od M1 * 2 ^ ex % od M2) hkk hp hY1 hY2 d2 d3
    have d6 : ansK k Y (od M1 * 2 ^ ex % od M2 = 0 ∧ od M1 * 2 ^ ex / od M2 = Y * 2 ^ n) = ansK k Y (M1 = Y * M2) := by
      refine ansK_congr (d4.trans ?_)
      rw [e1, e2]
    have hbl2 : bl (od M1 * 2 ^ ex / od M2 * 2 + 1) ≤ 320 := by
      have h := lt_of_bl_le hbl
      exact bl_le_of_lt (Nat.lt_of_lt_of_le (show _ < 2 ^ 311 by rw [show (311 : Nat) = 310 + 1 from rfl, Nat.pow_succ]; omega) (Nat.pow_le_pow_right (by omega) (by omega)))
    refine t_div_raw (ex := (ex : Int)) B F X N T hk hd hu hs ht y1 (by omega) rfl rfl (by omega) (by omega) (by omega) (by omega) hm hx1 ?_ ?_ ?_ ?_ ?_
    · rw [eq1]; have := pos2 p; omega
    · rw [eq1, bI_nat]; omega
    · rw [eq1, shl_one_nat]; omega
    · rw [eq1, shl_one_nat, bI_nat]; omega
    · intro N9 X9 hNX D o h' tk' P F' N'
      rw [eq1, eq2] at hNX
      rcases hNX with ⟨r0, rfl, rfl⟩ | ⟨r0, rfl, rfl⟩
      · exact hret' _ d6 D o h' tk' (isSg_ans (d5.1 (by omega)) (by omega) P) F' N'
      · rw [shl_one_nat] at P
        exact hret' _ d6 D o h' tk' (isSg_ans (d5.2 (by omega)) (by omega) P) F' N'
end
/-! C13 -/
local macro_rules | `(tactic| walk_at "call ref") => `(tactic| (k_here; (with_reducible show wpAny _ _ (call (Value.ref 42) _) _ _ _); k_dflt (refine' t_isqrt ?k1 ?k2 ?k3 ?k4 ?k5 ?k6 ?k7 ?k8 ?q1 ?q2 ?_; (case k1 => k_asm); (case k2 => k_asm); (case k3 => k_asm); (case k4 => k_asm); (case k5 => k_asm); (case k6 => first | exact rfl | assumption); (case k7 => ktr_room); (case k8 => ktr_units); (case q1 => walk_at "my nn"); (case q2 => walk_at "my nn"); k_whole); intro r9 hr1 hr2 hr3 hr4 t9 h9 tk9 F9 N9; (try dsimp only); (try k_fold)))
local macro_rules | `(tactic| walk_at "call ref") => `(tactic| (k_here; (with_reducible show wpAny _ _ (call (Value.ref 86) [_, _, _, _]) _ _ _); k_dflt ((refine' t_fme4 ?k1 ?k2 ?k3 ?k4 ?k5 ?k6 ?k7 ?k8 ?q1 ?q2 ?q3 ?q4 ?_); (case k1 => k_asm); (case k2 => k_asm); (case k3 => k_asm); (case k4 => k_asm); (case k5 => k_asm); (case k6 => first | exact rfl | assumption); (case k7 => ktr_room); (case k8 => ktr_units); (case q1 => walk_at "my nn"); (case q2 => assumption); (case q3 => walk_at "my nn"); (case q4 => walk_at "my nn"); walk_at "my after")))
theorem occF : (Builtin.Str.occurrences (Str.ofString "fd") ⟨#[102]⟩ 0 (Str.ofString "fd").length 1).isEmpty = false := by decide +kernel
theorem occC : (Builtin.Str.occurrences (Str.ofString "fd") ⟨#[99]⟩ 0 (Str.ofString "fd").length 1).isEmpty = true := by decide +kernel
theorem occF2 : (!(Builtin.Str.occurrences (Str.ofString "fd") ⟨#[102]⟩ 0 (Str.ofString "fd").length 1).isEmpty) = true := by rw [occF]; rfl
theorem occC2 : (!(Builtin.Str.occurrences (Str.ofString "fd") ⟨#[99]⟩ 0 (Str.ofString "fd").length 1).isEmpty) = false := by rw [occC]; rfl
local macro_rules | `(tactic| walk_at "ite") => `(tactic| (first | refine ite_pos occF2 ?_ | refine ite_isFalse occC2 ?_ | refine ite_isFalse occF ?_ | refine ite_pos occC ?_))
/-- a root's bits, and those of its double and one -/
theorem root_bits {r x : Int} (h0 : 0 < r) (h : r * r ≤ x) (hb : bI x ≤ 500) : bI r ≤ 500 ∧ 0 < shl r 1 + 1 ∧ bI (shl r 1 + 1) ≤ 502 := by
  have h1 : r ≤ x := by
    have := Int.mul_le_mul_of_nonneg_left (show 1 ≤ r by omega) (Int.le_of_lt h0)
    omega
  have h2 := bI_mono (Int.le_of_lt h0) h1
  obtain ⟨q, rfl⟩ := toN (Int.le_of_lt h0)
  rw [shl_one_nat, bI_nat, bI_nat]
  rw [bI_nat] at h2
  have h3 : bl (q * 2 + 1) ≤ bl q + 1 := by
    have h := bl_high q
    exact bl_le_of_lt (by rw [Nat.pow_succ]; omega)
  omega
section
variable {w : World} {loose : List Str} {mean : ExcName → Option Value} {mg mb : Str → Option Value}
   {dp un : Nat} {gd : Option (List Code)} {cn : Str} {cs : Scope} {a : Addr} {ccd : Value} {cl : List (Str × Addr)} {outer : List Env} {A₀ : Around} {base h₀ : Heap} {L : Addr} {m : Str → Option Value} {news : List (Addr × Obj)} {s : Shared} {Q E : Value → Shared → Prop}
   (B : Below A₀ base outer h₀) (F : Fr h₀ L s.heap m) (X : (Mine.hd.heap_39 w.params).In h₀) (N : News h₀ L s.heap news) (T : Top Mine.hd.view_39 loose mean mg mb h₀) (hk : cs.kind = .function)
include B F X N T hk
end
local macro_rules | `(tactic| walk_at "my nn") => `(tactic| (exact Int.le_trans (root_bits (by assumption) (by assumption) (by assumption)).1 (by omega)))
section
variable {w : World} {loose : List Str} {mean : ExcName → Option Value} {mg mb : Str → Option Value}
   {dp un : Nat} {gd : Option (List Code)} {cn : Str} {cs : Scope} {a : Addr} {ccd : Value} {cl : List (Str × Addr)} {outer : List Env} {A₀ : Around} {base h₀ : Heap} {L : Addr} {m : Str → Option Value} {news : List (Addr × Obj)} {s : Shared} {Q E : Value → Shared → Prop}
   (B : Below A₀ base outer h₀) (F : Fr h₀ L s.heap m) (X : (Mine.hd.heap_39 w.params).In h₀) (N : News h₀ L s.heap news) (T : Top Mine.hd.view_39 loose mean mg mb h₀) (hk : cs.kind = .function)
include B F X N T hk
end
local macro_rules | `(tactic| walk_at "my nn") => `(tactic| (exact (root_bits (by assumption) (by assumption) (by assumption)).2.1))
section
variable {w : World} {loose : List Str} {mean : ExcName → Option Value} {mg mb : Str → Option Value}
   {dp un : Nat} {gd : Option (List Code)} {cn : Str} {cs : Scope} {a : Addr} {ccd : Value} {cl : List (Str × Addr)} {outer : List Env} {A₀ : Around} {base h₀ : Heap} {L : Addr} {m : Str → Option Value} {news : List (Addr × Obj)} {s : Shared} {Q E : Value → Shared → Prop}
   (B : Below A₀ base outer h₀) (F : Fr h₀ L s.heap m) (X : (Mine.hd.heap_39 w.params).In h₀) (N : News h₀ L s.heap news) (T : Top Mine.hd.view_39 loose mean mg mb h₀) (hk : cs.kind = .function)
include B F X N T hk
end
local macro_rules | `(tactic| walk_at "my nn") => `(tactic| (exact Int.le_trans (root_bits (by assumption) (by assumption) (by assumption)).2.2 (by omega)))
section
variable {w : World} {loose : List Str} {mean : ExcName → Option Value} {mg mb : Str → Option Value}
   {dp un : Nat} {gd : Option (List Code)} {cn : Str} {cs : Scope} {a : Addr} {ccd : Value} {cl : List (Str × Addr)} {outer : List Env} {A₀ : Around} {base h₀ : Heap} {L : Addr} {m : Str → Option Value} {news : List (Addr × Obj)} {s : Shared} {Q E : Value → Shared → Prop}
   (B : Below A₀ base outer h₀) (F : Fr h₀ L s.heap m) (X : (Mine.hd.heap_39 w.params).In h₀) (N : News h₀ L s.heap news) (T : Top Mine.hd.view_39 loose mean mg mb h₀) (hk : cs.kind = .function)
include B F X N T hk
end
local macro_rules | `(tactic| walk_at "my nn") => `(tactic| (first | assumption | decide | omega))
section
variable {w : World} {loose : List Str} {mean : ExcName → Option Value} {mg mb : Str → Option Value}
   {dp un : Nat} {gd : Option (List Code)} {cn : Str} {cs : Scope} {a : Addr} {ccd : Value} {cl : List (Str × Addr)} {outer : List Env} {A₀ : Around} {base h₀ : Heap} {L : Addr} {m : Str → Option Value} {news : List (Addr × Obj)} {s : Shared} {Q E : Value → Shared → Prop}
   (B : Below A₀ base outer h₀) (F : Fr h₀ L s.heap m) (X : (Mine.hd.heap_39 w.params).In h₀) (N : News h₀ L s.heap news) (T : Top Mine.hd.view_39 loose mean mg mb h₀) (hk : cs.kind = .function)
include B F X N T hk
theorem t_sqrt_fe {D1 c1 : Nat} {sm se sb prec sh : Int} {a1 a2 a3 a4 k1 k2 : Tok} (hd : dp + 6 < recursionLimit) (hu : un + 48 < cLine)
   (hs : (D1, tup4 c1 0 a1 sm a2 se a3 sb a4) ∈ news)
   (h1 : 0 < sm) (hsb : bI sm = sb) (h5 : bI sm ≤ 100) (hp : 1 ≤ prec) (hp2 : prec ≤ 100) (hev : se % 2 = 0) (hsm : ¬ sm = 1)
   (hsh : sh = (if 2 * prec - sb + 4 > 4 then 2 * prec - sb + 4 else 4) + (if 2 * prec - sb + 4 > 4 then 2 * prec - sb + 4 else 4) % 2) (hq1 : 0 < shl sm sh) (hq2 : bI (shl sm sh) ≤ 500)
   (hret : ∀ r : Int, 0 < r → r * r ≤ shl sm sh → shl sm sh < (r + 1) * (r + 1) → RetT h₀ L m news s Q (fun o => IsSg o 0 (rdI 0 r prec) ((se - sh) / 2 + shI r prec))) :
   wpAny (model PySem.Challenge.rw_aa5011_01.row.prog w) (ktrTop dp un gd cn cs L a ccd cl outer) (call (.ref 162) [.ref D1, .int prec k1, .str ⟨#[102]⟩ k2]) Q E s := by
  revert X; k_fill; intro X
  subst hsh
  have z1 := nzp h1
  have hsb0 : 0 ≤ sb := by rw [← hsb]; exact Int.natCast_nonneg _
  have hb2 : bI 2 = 2 := by decide +kernel
  have hM : Mode 0 102 0 := by simp [Mode]
  have hoc := occF
  have hoc2 := occF2
  have z2 : (se % 2 != 0) = false := nzf hev
  have z3 : (sm == 1) = false := by simpa using hsm
  have hrb := fun r h0 h => @root_bits r _ h0 h hq2
  refine wpAny_call ?_
  k_dflt walk_at "my enter"
  walk_at "my steps"
  all_goals first
    | exact hret _ (by assumption) (by assumption) (by assumption) _ _ _ _ (by assumption) (by assumption) (cb_drop (by assumption) (by walk_at "my sub"))
    | (exfalso; omega)
theorem t_sqrt_fo {D1 c1 : Nat} {sm se sb prec sh : Int} {a1 a2 a3 a4 k1 k2 : Tok} (hd : dp + 6 < recursionLimit) (hu : un + 48 < cLine)
   (hs : (D1, tup4 c1 0 a1 sm a2 se a3 sb a4) ∈ news)
   (h1 : 0 < sm) (hsb : bI sm = sb) (h5 : bI sm ≤ 100) (hp : 1 ≤ prec) (hp2 : prec ≤ 100) (hev : ¬ se % 2 = 0)
   (hsh : sh = (if 2 * prec - (sb + 1) + 4 > 4 then 2 * prec - (sb + 1) + 4 else 4) + (if 2 * prec - (sb + 1) + 4 > 4 then 2 * prec - (sb + 1) + 4 else 4) % 2) (hq1 : 0 < shl (shl sm 1) sh) (hq2 : bI (shl (shl sm 1) sh) ≤ 500) (hq3 : bI (shl sm 1) ≤ 101)
   (hret : ∀ r : Int, 0 < r → r * r ≤ shl (shl sm 1) sh → shl (shl sm 1) sh < (r + 1) * (r + 1) → RetT h₀ L m news s Q (fun o => IsSg o 0 (rdI 0 r prec) ((se - 1 - sh) / 2 + shI r prec))) :
   wpAny (model PySem.Challenge.rw_aa5011_01.row.prog w) (ktrTop dp un gd cn cs L a ccd cl outer) (call (.ref 162) [.ref D1, .int prec k1, .str ⟨#[102]⟩ k2]) Q E s := by
  revert X; k_fill; intro X
  subst hsh
  have z1 := nzp h1
  have hsb0 : 0 ≤ sb := by rw [← hsb]; exact Int.natCast_nonneg _
  have hb2 : bI 2 = 2 := by decide +kernel
  have hM : Mode 0 102 0 := by simp [Mode]
  have hoc := occF
  have hoc2 := occF2
  have z2 : (se % 2 != 0) = true := nz hev
  have hrb := fun r h0 h => @root_bits r _ h0 h hq2
  refine wpAny_call ?_
  k_dflt walk_at "my enter"
  walk_at "my steps"
  all_goals first
    | exact hret _ (by assumption) (by assumption) (by assumption) _ _ _ _ (by assumption) (by assumption) (cb_drop (by assumption) (by walk_at "my sub"))
    | (exfalso; omega)
theorem t_sqrt_ce {D1 c1 : Nat} {sm se sb prec sh : Int} {a1 a2 a3 a4 k1 k2 : Tok} (hd : dp + 6 < recursionLimit) (hu : un + 48 < cLine)
   (hs : (D1, tup4 c1 0 a1 sm a2 se a3 sb a4) ∈ news)
   (h1 : 0 < sm) (hsb : bI sm = sb) (h5 : bI sm ≤ 100) (hp : 1 ≤ prec) (hp2 : prec ≤ 100) (hev : se % 2 = 0) (hsm : ¬ sm = 1)
   (hsh : sh = (if 2 * prec - sb + 4 > 4 then 2 * prec - sb + 4 else 4) + (if 2 * prec - sb + 4 > 4 then 2 * prec - sb + 4 else 4) % 2) (hq1 : 0 < shl sm sh) (hq2 : bI (shl sm sh) ≤ 500)
   (hret : ∀ r : Int, 0 < r → r * r ≤ shl sm sh → shl sm sh < (r + 1) * (r + 1) → ∀ N Z, ((shl sm sh - r * r = 0 ∧ N = r ∧ Z = sh) ∨ (shl sm sh - r * r ≠ 0 ∧ N = shl r 1 + 1 ∧ Z = sh + 2)) → RetT h₀ L m news s Q (fun o => IsSg o 0 (rdI 1 N prec) ((se - Z) / 2 + shI N prec))) :
   wpAny (model PySem.Challenge.rw_aa5011_01.row.prog w) (ktrTop dp un gd cn cs L a ccd cl outer) (call (.ref 162) [.ref D1, .int prec k1, .str ⟨#[99]⟩ k2]) Q E s := by
  revert X; k_fill; intro X
  subst hsh
  have z1 := nzp h1
  have hsb0 : 0 ≤ sb := by rw [← hsb]; exact Int.natCast_nonneg _
  have hb2 : bI 2 = 2 := by decide +kernel
  have hM : Mode 0 99 1 := by simp [Mode]
  have hoc := occC
  have hoc2 := occC2
  have z2 : (se % 2 != 0) = false := nzf hev
  have z3 : (sm == 1) = false := by simpa using hsm
  have hrb := fun r h0 h => @root_bits r _ h0 h hq2
  refine wpAny_call ?_
  k_dflt walk_at "my enter"
  walk_at "my steps"
  all_goals first
    | exact hret _ (by assumption) (by assumption) (by assumption) _ _ (Or.inl ⟨by assumption, rfl, rfl⟩) _ _ _ _ (by assumption) (by assumption) (cb_drop (by assumption) (by walk_at "my sub"))
    | exact hret _ (by assumption) (by assumption) (by assumption) _ _ (Or.inr ⟨by assumption, rfl, rfl⟩) _ _ _ _ (by assumption) (by assumption) (cb_drop (by assumption) (by walk_at "my sub"))
    | (exfalso; omega)
theorem t_sqrt_co {D1 c1 : Nat} {sm se sb prec sh : Int} {a1 a2 a3 a4 k1 k2 : Tok} (hd : dp + 6 < recursionLimit) (hu : un + 48 < cLine)
   (hs : (D1, tup4 c1 0 a1 sm a2 se a3 sb a4) ∈ news)
   (h1 : 0 < sm) (hsb : bI sm = sb) (h5 : bI sm ≤ 100) (hp : 1 ≤ prec) (hp2 : prec ≤ 100) (hev : ¬ se % 2 = 0)
   (hsh : sh = (if 2 * prec - (sb + 1) + 4 > 4 then 2 * prec - (sb + 1) + 4 else 4) + (if 2 * prec - (sb + 1) + 4 > 4 then 2 * prec - (sb + 1) + 4 else 4) % 2) (hq1 : 0 < shl (shl sm 1) sh) (hq2 : bI (shl (shl sm 1) sh) ≤ 500) (hq3 : bI (shl sm 1) ≤ 101)
   (hret : ∀ r : Int, 0 < r → r * r ≤ shl (shl sm 1) sh → shl (shl sm 1) sh < (r + 1) * (r + 1) → ∀ N Z, ((shl (shl sm 1) sh - r * r = 0 ∧ N = r ∧ Z = sh) ∨ (shl (shl sm 1) sh - r * r ≠ 0 ∧ N = shl r 1 + 1 ∧ Z = sh + 2)) → RetT h₀ L m news s Q (fun o => IsSg o 0 (rdI 1 N prec) ((se - 1 - Z) / 2 + shI N prec))) :
   wpAny (model PySem.Challenge.rw_aa5011_01.row.prog w) (ktrTop dp un gd cn cs L a ccd cl outer) (call (.ref 162) [.ref D1, .int prec k1, .str ⟨#[99]⟩ k2]) Q E s := by
  revert X; k_fill; intro X
  subst hsh
  have z1 := nzp h1
  have hsb0 : 0 ≤ sb := by rw [← hsb]; exact Int.natCast_nonneg _
  have hb2 : bI 2 = 2 := by decide +kernel
  have hM : Mode 0 99 1 := by simp [Mode]
  have hoc := occC
  have hoc2 := occC2
  have z2 : (se % 2 != 0) = true := nz hev
  have hrb := fun r h0 h => @root_bits r _ h0 h hq2
  refine wpAny_call ?_
  k_dflt walk_at "my enter"
  walk_at "my steps"
  all_goals first
    | exact hret _ (by assumption) (by assumption) (by assumption) _ _ (Or.inl ⟨by assumption, rfl, rfl⟩) _ _ _ _ (by assumption) (by assumption) (cb_drop (by assumption) (by walk_at "my sub"))
    | exact hret _ (by assumption) (by assumption) (by assumption) _ _ (Or.inr ⟨by assumption, rfl, rfl⟩) _ _ _ _ (by assumption) (by assumption) (cb_drop (by assumption) (by walk_at "my sub"))
    | (exfalso; omega)
theorem t_sqrt_one {D1 c1 : Nat} {code k : Nat} {se sb prec : Int} {a1 a2 a3 a4 k1 k2 : Tok} (hd : dp + 6 < recursionLimit) (hu : un + 48 < cLine)
   (hs : (D1, tup4 c1 0 a1 1 a2 se a3 sb a4) ∈ news)
   (hsb : bI 1 = sb) (hp : 1 ≤ prec) (hev : se % 2 = 0) (hm : Mode 0 code k)
   (hret : RetT h₀ L m news s Q (fun o => IsSg o 0 (rdI k 1 prec) (se / 2 + shI 1 prec))) :
   wpAny (model PySem.Challenge.rw_aa5011_01.row.prog w) (ktrTop dp un gd cn cs L a ccd cl outer) (call (.ref 162) [.ref D1, .int prec k1, .str ⟨#[code]⟩ k2]) Q E s := by
  revert X; k_fill; intro X
  have hb2 : bI 2 = 2 := by decide +kernel
  have hb1 := bI1
  have hev' : (se % 2 != 0) = false := nzf hev
  refine wpAny_call ?_
  k_dflt walk_at "my enter"
  walk_at "my steps"
  all_goals first | walk_at "my pass" | (exfalso; omega)
end
/-! M6 -/
theorem sq_le {a b : Nat} (h : a * a ≤ b * b) : a ≤ b := Nat.mul_self_le_mul_self_iff.mp h
theorem sq_lt {a b : Nat} (h : a * a < b * b) : a < b := Nat.mul_self_lt_mul_self_iff.mp h
theorem sq_mul (a b : Nat) : (a * b) * (a * b) = a * a * (b * b) := by ac_rfl
/-- the root of the program, told by its answer -/
theorem sqrt_ans {A r a b g Y : Nat} (h : (Y * 2 ^ g) * (Y * 2 ^ g) ≤ A * (2 ^ a * 2 ^ a)) (h' : A * (2 ^ a * 2 ^ a) < ((Y + 1) * 2 ^ g) * ((Y + 1) * 2 ^ g))
    (hr : r * r ≤ A * (2 ^ b * 2 ^ b)) (hr' : A * (2 ^ b * 2 ^ b) < (r + 1) * (r + 1)) (hY : Y < r) :
    ∃ n, n + a = g + b ∧ Y * 2 ^ n ≤ r ∧ r < (Y + 1) * 2 ^ n ∧ ((A * (2 ^ b * 2 ^ b) = r * r ∧ r = Y * 2 ^ n) ↔ A * (2 ^ a * 2 ^ a) = (Y * 2 ^ g) * (Y * 2 ^ g)) := by
  generalize hS : A * (2 ^ b * 2 ^ b) = S at *
  have pb := pos2 b
  have pa := pos2 a
  have pa2 : 0 < 2 ^ a * 2 ^ a := Nat.mul_pos pa pa
  have pb2 : 0 < 2 ^ b * 2 ^ b := Nat.mul_pos pb pb
  have e0 : ∀ Z : Nat, (Z * 2 ^ g) * (Z * 2 ^ g) * (2 ^ b * 2 ^ b) = (Z * 2 ^ (g + b)) * (Z * 2 ^ (g + b)) := fun Z => by rw [Nat.pow_add]; ac_rfl
  have e1 : A * (2 ^ a * 2 ^ a) * (2 ^ b * 2 ^ b) = S * (2 ^ a * 2 ^ a) := by rw [← hS]; ac_rfl
  have k1 : (Y * 2 ^ (g + b)) * (Y * 2 ^ (g + b)) ≤ S * (2 ^ a * 2 ^ a) := by rw [← e0, ← e1]; exact Nat.mul_le_mul_right _ h
  have k2 : S * (2 ^ a * 2 ^ a) < ((Y + 1) * 2 ^ (g + b)) * ((Y + 1) * 2 ^ (g + b)) := by rw [← e0, ← e1]; exact Nat.mul_lt_mul_of_pos_right h' pb2
  have k3 : A * (2 ^ a * 2 ^ a) = (Y * 2 ^ g) * (Y * 2 ^ g) ↔ S * (2 ^ a * 2 ^ a) = (Y * 2 ^ (g + b)) * (Y * 2 ^ (g + b)) := by
    rw [← e0, ← e1]; exact (Nat.mul_left_inj (by omega)).symm
  have hle : a ≤ g + b := by
    refine Nat.le_of_not_lt fun hc => ?_
    have h1 : 2 ^ (g + b) ≤ 2 ^ a := Nat.pow_le_pow_right (by omega) (by omega)
    have h2 : (Y + 1) * 2 ^ (g + b) ≤ (Y + 1) * 2 ^ a := Nat.mul_le_mul_left _ h1
    have h3 := Nat.lt_of_lt_of_le k2 (Nat.mul_le_mul h2 h2)
    rw [sq_mul] at h3
    have h4 : S < (Y + 1) * (Y + 1) := Nat.lt_of_mul_lt_mul_right h3
    have := sq_lt (Nat.lt_of_le_of_lt hr h4)
    omega
  obtain ⟨n, hn⟩ : ∃ n, n + a = g + b := ⟨g + b - a, by omega⟩
  have e2 : ∀ Z : Nat, (Z * 2 ^ (g + b)) * (Z * 2 ^ (g + b)) = (Z * 2 ^ n) * (Z * 2 ^ n) * (2 ^ a * 2 ^ a) := fun Z => by rw [← hn, Nat.pow_add]; ac_rfl
  rw [e2] at k1 k2 k3
  have k1' := Nat.le_of_mul_le_mul_right k1 pa2
  have k2' := Nat.lt_of_mul_lt_mul_right k2
  have k3' := k3.trans (Nat.mul_left_inj (by omega))
  have l1 := sq_lt (Nat.lt_of_le_of_lt k1' hr')
  refine ⟨n, hn, by omega, sq_lt (Nat.lt_of_le_of_lt hr k2'), ?_⟩
  rw [k3']
  constructor
  · rintro ⟨h1, h2⟩; rw [h1, ← h2]
  · intro h1
    have h2 : r ≤ Y * 2 ^ n := sq_le (by rw [← h1]; exact hr)
    have h3 : r = Y * 2 ^ n := by omega
    exact ⟨by rw [h1, ← h3], h3⟩
theorem sqrt_big {A r p b : Nat} (hA : 0 < A) (hr' : A * (2 ^ b * 2 ^ b) < (r + 1) * (r + 1)) (hb : p + p + 3 ≤ bl A + (b + b)) : 2 ^ p ≤ r := by
  have h1 := bl_low hA
  have h2 : 2 ^ p * 2 * (2 ^ p * 2) ≤ A * (2 ^ b * 2 ^ b) := by
    calc 2 ^ p * 2 * (2 ^ p * 2) = 2 ^ (p + p + 2) := by rw [show p + p + 2 = (p + 1) + (p + 1) by omega, Nat.pow_add, Nat.pow_succ]
      _ ≤ 2 ^ (bl A - 1 + (b + b)) := Nat.pow_le_pow_right (by omega) (by have := bl_pos hA; omega)
      _ = 2 ^ (bl A - 1) * (2 ^ b * 2 ^ b) := by rw [Nat.pow_add, Nat.pow_add 2 b b]
      _ ≤ A * (2 ^ b * 2 ^ b) := Nat.mul_le_mul_right _ h1
  have := sq_lt (Nat.lt_of_le_of_lt h2 hr')
  have := pos2 p
  omega
/-! C14 -/
/-- what both walks of the root need of a number A * 4 ^ b -/
theorem root_pre {A p : Nat} (hA : 0 < A) (hA2 : bl A ≤ 101) (hp2 : p ≤ 100) : ∃ b : Nat, ((b + b : Nat) : Int) = (if 2 * (p : Int) - bI A + 4 > 4 then 2 * (p : Int) - bI A + 4 else 4) + (if 2 * (p : Int) - bI A + 4 > 4 then 2 * (p : Int) - bI A + 4 else 4) % 2 ∧
    p + p + 3 ≤ bl A + (b + b) ∧ shl (A : Int) ((b + b : Nat) : Int) = ((A * (2 ^ b * 2 ^ b) : Nat) : Int) ∧ 0 < shl (A : Int) ((b + b : Nat) : Int) ∧ bI (shl (A : Int) ((b + b : Nat) : Int)) ≤ 500 := by
  have hX : ∃ b : Nat, ((b + b : Nat) : Int) = (if 2 * (p : Int) - bI A + 4 > 4 then 2 * (p : Int) - bI A + 4 else 4) + (if 2 * (p : Int) - bI A + 4 > 4 then 2 * (p : Int) - bI A + 4 else 4) % 2 ∧ p + p + 3 ≤ bl A + (b + b) ∧ b + b ≤ 206 := by
    rw [bI_nat]
    split
    · exact ⟨((2 * (p : Int) - bl A + 4 + (2 * (p : Int) - bl A + 4) % 2) / 2).toNat, by omega, by omega, by omega⟩
    · exact ⟨2, by omega, by omega, by omega⟩
  obtain ⟨b, h1, h2, h3⟩ := hX
  have h4 : shl (A : Int) ((b + b : Nat) : Int) = ((A * (2 ^ b * 2 ^ b) : Nat) : Int) := by rw [shl_nat, Nat.pow_add]
  refine ⟨b, h1, h2, h4, ?_, ?_⟩
  · rw [h4]
    have : 0 < A * (2 ^ b * 2 ^ b) := Nat.mul_pos hA (Nat.mul_pos (pos2 b) (pos2 b))
    omega
  · rw [h4, bI_nat, ← Nat.pow_add]
    have := bl_shift hA (b + b)
    omega
theorem shl_two {A : Nat} : shl (A : Int) 1 = ((A * 2 : Nat) : Int) := by
  rw [show (1 : Int) = ((1 : Nat) : Int) from rfl, shl_nat, Nat.pow_one]
section
variable {w : World} {loose : List Str} {mean : ExcName → Option Value} {mg mb : Str → Option Value}
   {dp un : Nat} {gd : Option (List Code)} {cn : Str} {cs : Scope} {a : Addr} {ccd : Value} {cl : List (Str × Addr)} {outer : List Env} {A₀ : Around} {base h₀ : Heap} {L : Addr} {m : Str → Option Value} {news : List (Addr × Obj)} {s : Shared} {Q E : Value → Shared → Prop}
   (B : Below A₀ base outer h₀) (F : Fr h₀ L s.heap m) (X : (Mine.hd.heap_39 w.params).In h₀) (N : News h₀ L s.heap news) (T : Top Mine.hd.view_39 loose mean mg mb h₀) (hk : cs.kind = .function)
include B F X N T hk
theorem t_sqrtf {D1 : Nat} {o1 : Obj} {M Y p g : Nat} {Ex G prec : Int} {k1 k2 : Tok} (hd : dp + 6 < recursionLimit) (hu : un + 48 < cLine)
   (hs : (D1, o1) ∈ news) (i1 : IsSg o1 0 M Ex) (h1 : 0 < M) (b1 : bl M ≤ 100) (hpp : prec = (p : Int)) (hp : 1 ≤ p) (hp2 : p ≤ 100)
   (hE : Ex = 2 * (G - g)) (hY1 : 2 ^ (p - 1) ≤ Y) (hY2 : Y < 2 ^ p) (hlo : (Y * 2 ^ g) * (Y * 2 ^ g) ≤ M) (hhi : M < ((Y + 1) * 2 ^ g) * ((Y + 1) * 2 ^ g))
   (hret : RetT h₀ L m news s Q (fun o => IsSg o 0 (ansK 0 Y (M = (Y * 2 ^ g) * (Y * 2 ^ g))) G)) :
   wpAny (model PySem.Challenge.rw_aa5011_01.row.prog w) (ktrTop dp un gd cn cs L a ccd cl outer) (call (.ref 162) [.ref D1, .int prec k1, .str ⟨#[102]⟩ k2]) Q E s := by
  obtain ⟨c1, a1, a2, a3, a4, rfl⟩ := i1
  subst hpp
  have y1 := odI_pos h1
  have x1 := bI_od_le h1 b1
  have w1 : tzI (M : Int) = (tz M : Int) := by rw [tzI_def, Int.toNat_natCast]
  have v1 : odI (M : Int) = (od M : Int) := by rw [odI_def, Int.toNat_natCast]
  have e1 := od_mul h1
  have p1 := od_pos h1
  have q1 := od_bl h1
  have hret' : ∀ A, A = ansK 0 Y (M = (Y * 2 ^ g) * (Y * 2 ^ g)) → RetT h₀ L m news s Q (fun o => IsSg o 0 A G) := fun A hA => by subst hA; exact hret
  by_cases hev : tz M % 2 = 0
  · by_cases h3 : od M = 1
    · rw [v1, h3] at hs
      rw [h3, Nat.one_mul] at e1
      obtain ⟨a, ha⟩ : ∃ a, tz M = a + a := ⟨tz M / 2, by omega⟩
      refine t_sqrt_one B F X N T hk hd hu hs rfl (by omega) (by omega) (k := 0) (by simp [Mode]) ?_
      intro D o h' tk' P F' N'
      rw [ha, Nat.pow_add] at e1
      rw [← e1] at hlo hhi
      have l1 := sq_le hlo
      have l2 := sq_lt hhi
      have hY0 := pos2 (p - 1)
      have hag : g ≤ a := by
        refine Nat.le_of_not_lt fun hc => ?_
        have h5 : 2 ^ a < 2 ^ g := Nat.pow_lt_pow_right (by omega) hc
        have h6 : 1 * 2 ^ g ≤ Y * 2 ^ g := Nat.mul_le_mul_right _ (by omega)
        omega
      obtain ⟨d, rfl⟩ : ∃ d, a = d + g := ⟨a - g, by omega⟩
      rw [Nat.pow_add] at l1 l2
      have l3 := Nat.le_of_mul_le_mul_right l1 (pos2 g)
      have l4 := Nat.lt_of_mul_lt_mul_right l2
      have l5 : Y = 2 ^ d := by omega
      have l6 : rsh 1 p = 0 ∧ rd 0 1 p = 1 := by
        have : bl 1 ≤ p := by rw [bl_one]; exact hp
        refine ⟨?_, rd_id this⟩
        unfold rsh; omega
      have l7 : M = (Y * 2 ^ g) * (Y * 2 ^ g) := by rw [← e1, l5, Nat.pow_add]
      refine hret' Y ?_ D o h' tk' ?_ F' N'
      · unfold ansK; rw [if_pos l7]; simp
      · have := @isSg_eq o 0 G 1 Y d 0 (by omega) (by omega) (by rw [l5]; simp)
        rw [show G = G + ((0 : Nat) : Int) by omega]
        refine this.mp ?_
        have := isSg_ans (N := 1) (k := 0) (p := p) (F := (Ex + tzI (M : Int)) / 2) (G := G + (d : Int)) l6 (by omega) P
        exact this
    ·
      obtain ⟨a, ha⟩ : ∃ a, tz M = a + a := ⟨tz M / 2, by omega⟩
      have eM : (od M) * (2 ^ a * 2 ^ a) = M := by
        conv => rhs; rw [← e1, ha]
        rw [← Nat.pow_add]
      have hAp : 0 < (od M) := by omega
      have hAb : bl (od M) ≤ 101 := by omega
      obtain ⟨b, g1, g2, g3, g4, g5⟩ := root_pre hAp hAb hp2
      rw [← eM] at hlo hhi hret'
      refine t_sqrt_fe (sh := ((b + b : Nat) : Int)) B F X N T hk hd hu hs y1 rfl (by omega) (by omega) (by omega) (by omega) (by rw [v1]; omega) ?_ ?_ ?_ ?_
      · rw [g1, v1]
      · rw [v1]; exact g4
      · rw [v1]; exact g5
      · intro r hr0 hr1 hr2 D o h' tk' P F' N'
        rw [v1, g3] at hr1 hr2
        obtain ⟨q, rfl⟩ := toN (Int.le_of_lt hr0)
        have u1 : q * q ≤ (od M) * (2 ^ b * 2 ^ b) := by rw [← Int.natCast_mul] at hr1; omega
        have u2 : (od M) * (2 ^ b * 2 ^ b) < (q + 1) * (q + 1) := by
          have e5 : ((q : Int) + 1) * ((q : Int) + 1) = (((q + 1) * (q + 1) : Nat) : Int) := by rw [Int.natCast_mul]; rfl
          rw [e5] at hr2; omega
        have u3 := sqrt_big hAp u2 g2
        obtain ⟨n, d1, d2, d3, d4⟩ := sqrt_ans hlo hhi u1 u2 (by omega)
        have d5 := rd_ans (k := 0) (Or.inl rfl) hp hY1 hY2 d2 d3
        refine hret' _ ?_ D o h' tk' (isSg_ans d5 (by omega) P) F' N'
        rfl
  ·
    obtain ⟨a, ha⟩ : ∃ a, tz M = a + a + 1 := ⟨tz M / 2, by omega⟩
    have eM : (od M * 2) * (2 ^ a * 2 ^ a) = M := by
      conv => rhs; rw [← e1, ha]
      rw [← Nat.pow_add, Nat.pow_succ]; ac_rfl
    have hAp : 0 < (od M * 2) := by omega
    have hAb : bl (od M * 2) ≤ 101 := by have := bl_shift p1 1; rw [Nat.pow_one] at this; omega
    obtain ⟨b, g1, g2, g3, g4, g5⟩ := root_pre hAp hAb hp2
    rw [← eM] at hlo hhi hret'
    refine t_sqrt_fo (sh := ((b + b : Nat) : Int)) B F X N T hk hd hu hs y1 rfl (by omega) (by omega) (by omega) (by omega) ?_ ?_ ?_ ?_ ?_
    · rw [g1]
      have e7 : bI ((od M * 2 : Nat) : Int) = bI (odI (M : Int)) + 1 := by
        have := bl_shift p1 1
        rw [Nat.pow_one] at this
        rw [v1, bI_nat, bI_nat]; omega
      rw [e7]
    · rw [v1, shl_two]; exact g4
    · rw [v1, shl_two]; exact g5
    · rw [v1, shl_two, bI_nat]; omega
    · intro r hr0 hr1 hr2 D o h' tk' P F' N'
      rw [v1, shl_two, g3] at hr1 hr2
      obtain ⟨q, rfl⟩ := toN (Int.le_of_lt hr0)
      have u1 : q * q ≤ (od M * 2) * (2 ^ b * 2 ^ b) := by rw [← Int.natCast_mul] at hr1; omega
      have u2 : (od M * 2) * (2 ^ b * 2 ^ b) < (q + 1) * (q + 1) := by
        have e5 : ((q : Int) + 1) * ((q : Int) + 1) = (((q + 1) * (q + 1) : Nat) : Int) := by rw [Int.natCast_mul]; rfl
        rw [e5] at hr2; omega
      have u3 := sqrt_big hAp u2 g2
      obtain ⟨n, d1, d2, d3, d4⟩ := sqrt_ans hlo hhi u1 u2 (by omega)
      have d5 := rd_ans (k := 0) (Or.inl rfl) hp hY1 hY2 d2 d3
      refine hret' _ ?_ D o h' tk' (isSg_ans d5 (by omega) P) F' N'
      rfl
theorem t_sqrtc {D1 : Nat} {o1 : Obj} {M Y p g : Nat} {Ex G prec : Int} {k1 k2 : Tok} (hd : dp + 6 < recursionLimit) (hu : un + 48 < cLine)
   (hs : (D1, o1) ∈ news) (i1 : IsSg o1 0 M Ex) (h1 : 0 < M) (b1 : bl M ≤ 100) (hpp : prec = (p : Int)) (hp : 1 ≤ p) (hp2 : p ≤ 100)
   (hE : Ex = 2 * (G - g)) (hY1 : 2 ^ (p - 1) ≤ Y) (hY2 : Y < 2 ^ p) (hlo : (Y * 2 ^ g) * (Y * 2 ^ g) ≤ M) (hhi : M < ((Y + 1) * 2 ^ g) * ((Y + 1) * 2 ^ g))
   (hret : RetT h₀ L m news s Q (fun o => IsSg o 0 (ansK 1 Y (M = (Y * 2 ^ g) * (Y * 2 ^ g))) G)) :
   wpAny (model PySem.Challenge.rw_aa5011_01.row.prog w) (ktrTop dp un gd cn cs L a ccd cl outer) (call (.ref 162) [.ref D1, .int prec k1, .str ⟨#[99]⟩ k2]) Q E s := by
  obtain ⟨c1, a1, a2, a3, a4, rfl⟩ := i1
  subst hpp
  have y1 := odI_pos h1
  have x1 := bI_od_le h1 b1
  have w1 : tzI (M : Int) = (tz M : Int) := by rw [tzI_def, Int.toNat_natCast]
  have v1 : odI (M : Int) = (od M : Int) := by rw [odI_def, Int.toNat_natCast]
  have e1 := od_mul h1
  have p1 := od_pos h1
  have q1 := od_bl h1
  have hret' : ∀ A, A = ansK 1 Y (M = (Y * 2 ^ g) * (Y * 2 ^ g)) → RetT h₀ L m news s Q (fun o => IsSg o 0 A G) := fun A hA => by subst hA; exact hret
  by_cases hev : tz M % 2 = 0
  · by_cases h3 : od M = 1
    · rw [v1, h3] at hs
      rw [h3, Nat.one_mul] at e1
      obtain ⟨a, ha⟩ : ∃ a, tz M = a + a := ⟨tz M / 2, by omega⟩
      refine t_sqrt_one B F X N T hk hd hu hs rfl (by omega) (by omega) (k := 1) (by simp [Mode]) ?_
      intro D o h' tk' P F' N'
      rw [ha, Nat.pow_add] at e1
      rw [← e1] at hlo hhi
      have l1 := sq_le hlo
      have l2 := sq_lt hhi
      have hY0 := pos2 (p - 1)
      have hag : g ≤ a := by
        refine Nat.le_of_not_lt fun hc => ?_
        have h5 : 2 ^ a < 2 ^ g := Nat.pow_lt_pow_right (by omega) hc
        have h6 : 1 * 2 ^ g ≤ Y * 2 ^ g := Nat.mul_le_mul_right _ (by omega)
        omega
      obtain ⟨d, rfl⟩ : ∃ d, a = d + g := ⟨a - g, by omega⟩
      rw [Nat.pow_add] at l1 l2
      have l3 := Nat.le_of_mul_le_mul_right l1 (pos2 g)
      have l4 := Nat.lt_of_mul_lt_mul_right l2
      have l5 : Y = 2 ^ d := by omega
      have l6 : rsh 1 p = 0 ∧ rd 1 1 p = 1 := by
        have : bl 1 ≤ p := by rw [bl_one]; exact hp
        refine ⟨?_, rd_id this⟩
        unfold rsh; omega
      have l7 : M = (Y * 2 ^ g) * (Y * 2 ^ g) := by rw [← e1, l5, Nat.pow_add]
      refine hret' Y ?_ D o h' tk' ?_ F' N'
      · unfold ansK; rw [if_pos l7]; simp
      · have := @isSg_eq o 0 G 1 Y d 0 (by omega) (by omega) (by rw [l5]; simp)
        rw [show G = G + ((0 : Nat) : Int) by omega]
        refine this.mp ?_
        have := isSg_ans (N := 1) (k := 1) (p := p) (F := (Ex + tzI (M : Int)) / 2) (G := G + (d : Int)) l6 (by omega) P
        exact this
    ·
      obtain ⟨a, ha⟩ : ∃ a, tz M = a + a := ⟨tz M / 2, by omega⟩
      have eM : (od M) * (2 ^ a * 2 ^ a) = M := by
        conv => rhs; rw [← e1, ha]
        rw [← Nat.pow_add]
      have hAp : 0 < (od M) := by omega
      have hAb : bl (od M) ≤ 101 := by omega
      obtain ⟨b, g1, g2, g3, g4, g5⟩ := root_pre hAp hAb hp2
      rw [← eM] at hlo hhi hret'
      refine t_sqrt_ce (sh := ((b + b : Nat) : Int)) B F X N T hk hd hu hs y1 rfl (by omega) (by omega) (by omega) (by omega) (by rw [v1]; omega) ?_ ?_ ?_ ?_
      · rw [g1, v1]
      · rw [v1]; exact g4
      · rw [v1]; exact g5
      · intro r hr0 hr1 hr2 N9 X9 hNX D o h' tk' P F' N'
        rw [v1, g3] at hr1 hr2 hNX
        obtain ⟨q, rfl⟩ := toN (Int.le_of_lt hr0)
        have u1 : q * q ≤ (od M) * (2 ^ b * 2 ^ b) := by rw [← Int.natCast_mul] at hr1; omega
        have u2 : (od M) * (2 ^ b * 2 ^ b) < (q + 1) * (q + 1) := by
          have e5 : ((q : Int) + 1) * ((q : Int) + 1) = (((q + 1) * (q + 1) : Nat) : Int) := by rw [Int.natCast_mul]; rfl
          rw [e5] at hr2; omega
        have u3 := sqrt_big hAp u2 g2
        obtain ⟨n, d1, d2, d3, d4⟩ := sqrt_ans hlo hhi u1 u2 (by omega)
        have d5 := @sticky q p Y n 1 ((od M) * (2 ^ b * 2 ^ b) - q * q) (Or.inr rfl) hp hY1 hY2 d2 d3
        have d6 : ansK 1 Y ((od M) * (2 ^ b * 2 ^ b) - q * q = 0 ∧ q = Y * 2 ^ n) = ansK 1 Y ((od M) * (2 ^ a * 2 ^ a) = (Y * 2 ^ g) * (Y * 2 ^ g)) := by
          refine ansK_congr (Iff.trans ?_ d4)
          exact and_congr_left fun _ => by omega
        rw [← Int.natCast_mul] at hNX
        rcases hNX with ⟨r0, rfl, rfl⟩ | ⟨r0, rfl, rfl⟩
        · exact hret' _ d6 D o h' tk' (isSg_ans (d5.1 (by omega)) (by omega) P) F' N'
        · rw [shl_one_nat] at P
          exact hret' _ d6 D o h' tk' (isSg_ans (d5.2 (by omega)) (by omega) P) F' N'
  ·
    obtain ⟨a, ha⟩ : ∃ a, tz M = a + a + 1 := ⟨tz M / 2, by omega⟩
    have eM : (od M * 2) * (2 ^ a * 2 ^ a) = M := by
      conv => rhs; rw [← e1, ha]
      rw [← Nat.pow_add, Nat.pow_succ]; ac_rfl
    have hAp : 0 < (od M * 2) := by omega
    have hAb : bl (od M * 2) ≤ 101 := by have := bl_shift p1 1; rw [Nat.pow_one] at this; omega
    obtain ⟨b, g1, g2, g3, g4, g5⟩ := root_pre hAp hAb hp2
    rw [← eM] at hlo hhi hret'
    refine t_sqrt_co (sh := ((b + b : Nat) : Int)) B F X N T hk hd hu hs y1 rfl (by omega) (by omega) (by omega) (by omega) ?_ ?_ ?_ ?_ ?_
    · rw [g1]
      have e7 : bI ((od M * 2 : Nat) : Int) = bI (odI (M : Int)) + 1 := by
        have := bl_shift p1 1
        rw [Nat.pow_one] at this
        rw [v1, bI_nat, bI_nat]; omega
      rw [e7]
    · rw [v1, shl_two]; exact g4
    · rw [v1, shl_two]; exact g5
    · rw [v1, shl_two, bI_nat]; omega
    · intro r hr0 hr1 hr2 N9 X9 hNX D o h' tk' P F' N'
      rw [v1, shl_two, g3] at hr1 hr2 hNX
      obtain ⟨q, rfl⟩ := toN (Int.le_of_lt hr0)
      have u1 : q * q ≤ (od M * 2) * (2 ^ b * 2 ^ b) := by rw [← Int.natCast_mul] at hr1; omega
      have u2 : (od M * 2) * (2 ^ b * 2 ^ b) < (q + 1) * (q + 1) := by
        have e5 : ((q : Int) + 1) * ((q : Int) + 1) = (((q + 1) * (q + 1) : Nat) : Int) := by rw [Int.natCast_mul]; rfl
        rw [e5] at hr2; omega
      have u3 := sqrt_big hAp u2 g2
      obtain ⟨n, d1, d2, d3, d4⟩ := sqrt_ans hlo hhi u1 u2 (by omega)
      have d5 := @sticky q p Y n 1 ((od M * 2) * (2 ^ b * 2 ^ b) - q * q) (Or.inr rfl) hp hY1 hY2 d2 d3
      have d6 : ansK 1 Y ((od M * 2) * (2 ^ b * 2 ^ b) - q * q = 0 ∧ q = Y * 2 ^ n) = ansK 1 Y ((od M * 2) * (2 ^ a * 2 ^ a) = (Y * 2 ^ g) * (Y * 2 ^ g)) := by
        refine ansK_congr (Iff.trans ?_ d4)
        exact and_congr_left fun _ => by omega
      rw [← Int.natCast_mul] at hNX
      rcases hNX with ⟨r0, rfl, rfl⟩ | ⟨r0, rfl, rfl⟩
      · exact hret' _ d6 D o h' tk' (isSg_ans (d5.1 (by omega)) (by omega) P) F' N'
      · rw [shl_one_nat] at P
        exact hret' _ d6 D o h' tk' (isSg_ans (d5.2 (by omega)) (by omega) P) F' N'
end
/-! C15 -/
local macro_rules | `(tactic| walk_at "my mem") => `(tactic| (first | assumption | exact List.mem_cons_self | (refine' List.mem_cons_of_mem _ ?_; walk_at "my mem")))
abbrev RetP (h₀ : Heap) (L : Addr) (m : Mp) (news : Led) (s : Shared) (Q : Value → Shared → Prop) (Pa Pb : Obj → Prop) : Prop :=
  ∀ (D Da Db : Addr) (oa ob : Obj) (c : Nat) (h' : Heap) (tk' : Nat), Pa oa → Pb ob → Fr h₀ L h' m → News h₀ L h' ((D, tup2 c (.ref Da) (.ref Db)) :: (Da, oa) :: (Db, ob) :: news) → Q (.ref D) { s with heap := h', toks := tk' }
local macro_rules | `(tactic| walk_at "call ref") => `(tactic| (k_here; (with_reducible show wpAny _ _ (call (Value.ref 115) _) _ _ _); k_dflt (refine' t_sign ?k1 ?k2 ?k3 ?k4 ?k5 ?k6 ?k7 ?k8 ?q1 ?q2 ?q3 ?_; (case k1 => k_asm); (case k2 => k_asm); (case k3 => k_asm); (case k4 => k_asm); (case k5 => k_asm); (case k6 => first | exact rfl | assumption); (case k7 => ktr_room); (case k8 => ktr_units); (case q1 => walk_at "my mem"); (case q2 => assumption); (case q3 => assumption); k_whole); intro t9 h9 tk9 F9 N9; (try dsimp only); (try k_fold)))
local macro_rules | `(tactic| walk_at "call ref") => `(tactic| (k_here; (with_reducible show wpAny _ _ (call (Value.ref 154) _) _ _ _); k_dflt ((refine' t_div ?k1 ?k2 ?k3 ?k4 ?k5 ?k6 ?k7 ?k8 ?q1 ?q2 ?q3 ?q4 ?q5 ?q6 ?q7 ?q8 ?q9 ?q10 ?q11 ?q12 ?q13 ?q14 ?q15 ?q16 ?q17 ?q18 ?_); (case k1 => k_asm); (case k2 => k_asm); (case k3 => k_asm); (case k4 => k_asm); (case k5 => k_asm); (case k6 => first | exact rfl | assumption); (case k7 => ktr_room); (case k8 => ktr_units); (case q1 => walk_at "my mem"); (case q2 => walk_at "my mem"); (case q3 => assumption); (case q4 => assumption); (case q5 => assumption); (case q6 => assumption); (case q7 => assumption); (case q8 => assumption); (case q9 => assumption); (case q10 => assumption); (case q11 => assumption); (case q12 => assumption); (case q14 => assumption); (case q13 => first | exact Or.inl rfl | exact Or.inr rfl); (case q15 => assumption); (case q16 => assumption); (case q17 => assumption); (case q18 => assumption); walk_at "my after")))
local macro_rules | `(tactic| walk_at "call ref") => `(tactic| (k_here; (with_reducible show wpAny _ _ (call (Value.ref 162) _) _ _ _); k_dflt ((refine' t_sqrtf ?k1 ?k2 ?k3 ?k4 ?k5 ?k6 ?k7 ?k8 ?q1 ?q2 ?q3 ?q4 ?q5 ?q6 ?q7 ?q8 ?q9 ?q10 ?q11 ?q12 ?_); (case k1 => k_asm); (case k2 => k_asm); (case k3 => k_asm); (case k4 => k_asm); (case k5 => k_asm); (case k6 => first | exact rfl | assumption); (case k7 => ktr_room); (case k8 => ktr_units); (case q1 => walk_at "my mem"); (case q2 => assumption); (case q3 => assumption); (case q4 => assumption); (case q5 => assumption); (case q6 => assumption); (case q7 => assumption); (case q8 => assumption); (case q11 => assumption); (case q12 => assumption); (case q9 => assumption); (case q10 => assumption); walk_at "my after")))
local macro_rules | `(tactic| walk_at "call ref") => `(tactic| (k_here; (with_reducible show wpAny _ _ (call (Value.ref 162) _) _ _ _); k_dflt ((refine' t_sqrtc ?k1 ?k2 ?k3 ?k4 ?k5 ?k6 ?k7 ?k8 ?q1 ?q2 ?q3 ?q4 ?q5 ?q6 ?q7 ?q8 ?q9 ?q10 ?q11 ?q12 ?_); (case k1 => k_asm); (case k2 => k_asm); (case k3 => k_asm); (case k4 => k_asm); (case k5 => k_asm); (case k6 => first | exact rfl | assumption); (case k7 => ktr_room); (case k8 => ktr_units); (case q1 => walk_at "my mem"); (case q2 => assumption); (case q3 => assumption); (case q4 => assumption); (case q5 => assumption); (case q6 => assumption); (case q7 => assumption); (case q8 => assumption); (case q11 => assumption); (case q12 => assumption); (case q9 => assumption); (case q10 => assumption); walk_at "my after")))
theorem ansK_pos {k Y : Nat} {p : Prop} [Decidable p] (h : 0 < Y) : 0 < ansK k Y p := by
  unfold ansK; split
  · exact h
  · split <;> omega
section
variable {w : World} {loose : List Str} {mean : ExcName → Option Value} {mg mb : Str → Option Value}
   {dp un : Nat} {gd : Option (List Code)} {cn : Str} {cs : Scope} {a : Addr} {ccd : Value} {cl : List (Str × Addr)} {outer : List Env} {A₀ : Around} {base h₀ : Heap} {L : Addr} {m : Str → Option Value} {news : List (Addr × Obj)} {s : Shared} {Q E : Value → Shared → Prop}
   (B : Below A₀ base outer h₀) (F : Fr h₀ L s.heap m) (X : (Mine.hd.heap_39 w.params).In h₀) (N : News h₀ L s.heap news) (T : Top Mine.hd.view_39 loose mean mg mb h₀) (hk : cs.kind = .function)
include B F X N T hk
theorem t_mdiv {P1 P2 D1 D2 D3 D4 cp cq : Nat} {o1 o2 o3 o4 : Obj} {M1 M2 Y p : Nat} {E1 E2 G prec : Int} {k1 : Tok} (hd : dp + 6 < recursionLimit) (hu : un + 500 < cLine)
   (hpp1 : (P1, tup2 cp (.ref D1) (.ref D2)) ∈ news) (hpp2 : (P2, tup2 cq (.ref D3) (.ref D4)) ∈ news)
   (hs1 : (D1, o1) ∈ news) (hs2 : (D2, o2) ∈ news) (hs3 : (D3, o3) ∈ news) (hs4 : (D4, o4) ∈ news)
   (i1 : IsSg o1 0 M1 E1) (i2 : IsSg o2 0 M1 (E1 + 1)) (i3 : IsSg o3 0 M2 E2) (i4 : IsSg o4 0 M2 (E2 + 1))
   (h1 : 0 < M1) (h2 : 0 < M2) (b1 : bl M1 ≤ 100) (b2 : bl M2 ≤ 100) (hpp : prec = (p : Int)) (hp : 1 ≤ p) (hp2 : p ≤ 100)
   (hE : E1 = E2 + G) (hY1 : 2 ^ (p - 1) ≤ Y) (hY2 : Y < 2 ^ p) (hlo : Y * M2 ≤ M1) (hhi : M1 < (Y + 1) * M2)
   (hret : RetP h₀ L m news s Q (fun o => IsSg o 0 Y (G - 1)) (fun o => IsSg o 0 (ansK 1 Y (M1 = Y * M2)) (G + 1))) :
   wpAny (model PySem.Challenge.rw_aa5011_01.row.prog w) (ktrTop dp un gd cn cs L a ccd cl outer) (call (.ref 191) [.ref P1, .ref P2, .int prec k1]) Q E s := by
  revert X; k_fill; intro X
  have hM0 : Mode 0 102 0 := by simp [Mode]
  have hM1 : Mode 0 99 1 := by simp [Mode]
  have g1 : E1 = E2 + 1 + (G - 1) := by omega
  have g2 : E1 + 1 = E2 + (G + 1) := by omega
  have h1' : (0 : Int) < (M1 : Int) := by omega
  have h2' : (0 : Int) < (M2 : Int) := by omega
  have hY0 : 0 < Y := Nat.lt_of_lt_of_le (pos2 _) hY1
  have y1 := odI_pos hY0
  have y2 := odI_pos (ansK_pos (k := 1) (p := M1 = Y * M2) hY0)
  have e0 : ansK 0 Y (M1 = Y * M2) = Y := by unfold ansK; rfl
  have e0' : odI ((ansK 0 Y (M1 = Y * M2) : Nat) : Int) = odI (Y : Int) := by rw [e0]
  refine wpAny_call ?_
  k_dflt walk_at "my enter"
  walk_at "my steps"
  all_goals first | exact hret _ _ _ _ _ _ _ _ (by rw [← e0]; assumption) (by assumption) (by assumption) (cb_drop (by assumption) (by walk_at "my sub"))
theorem t_msqrt {P1 D1 D2 cp : Nat} {o1 o2 : Obj} {M1 M2 Y1 Y2 g1 g2 p : Nat} {E1 E2 G1 G2 prec : Int} {k1 : Tok} (hd : dp + 7 < recursionLimit) (hu : un + 500 < cLine)
   (hpp1 : (P1, tup2 cp (.ref D1) (.ref D2)) ∈ news)
   (hs1 : (D1, o1) ∈ news) (hs2 : (D2, o2) ∈ news) (i1 : IsSg o1 0 M1 E1) (i2 : IsSg o2 0 M2 E2)
   (h1 : 0 < M1) (h2 : 0 < M2) (b1 : bl M1 ≤ 100) (b2 : bl M2 ≤ 100) (hpp : prec = (p : Int)) (hp : 1 ≤ p) (hp2 : p ≤ 100)
   (hE1 : E1 = 2 * (G1 - g1)) (hE2 : E2 = 2 * (G2 - g2)) (hY1 : 2 ^ (p - 1) ≤ Y1) (hY1' : Y1 < 2 ^ p) (hY2 : 2 ^ (p - 1) ≤ Y2) (hY2' : Y2 < 2 ^ p)
   (hlo1 : (Y1 * 2 ^ g1) * (Y1 * 2 ^ g1) ≤ M1) (hhi1 : M1 < ((Y1 + 1) * 2 ^ g1) * ((Y1 + 1) * 2 ^ g1))
   (hlo2 : (Y2 * 2 ^ g2) * (Y2 * 2 ^ g2) ≤ M2) (hhi2 : M2 < ((Y2 + 1) * 2 ^ g2) * ((Y2 + 1) * 2 ^ g2))
   (hret : RetP h₀ L m news s Q (fun o => IsSg o 0 Y1 G1) (fun o => IsSg o 0 (ansK 1 Y2 (M2 = (Y2 * 2 ^ g2) * (Y2 * 2 ^ g2))) G2)) :
   wpAny (model PySem.Challenge.rw_aa5011_01.row.prog w) (ktrTop dp un gd cn cs L a ccd cl outer) (call (.ref 198) [.ref P1, .int prec k1]) Q E s := by
  revert X; k_fill; intro X
  have e0 : ansK 0 Y1 (M1 = (Y1 * 2 ^ g1) * (Y1 * 2 ^ g1)) = Y1 := by unfold ansK; rfl
  refine wpAny_call ?_
  k_dflt walk_at "my enter"
  walk_at "my steps"
  all_goals first | exact hret _ _ _ _ _ _ _ _ (by rw [← e0]; assumption) (by assumption) (by assumption) (cb_drop (by assumption) (by walk_at "my sub"))
end
/-! C16 -/
/-- m x^k u^k against c 2^h, u = 2^e, as the law reckons it -/
@[irreducible] def sideI (m x k e c h : Int) : Int := if k * e - h < 0 then m * pw x k - shl c (-(k * e - h)) else shl (m * pw x k) (k * e - h) - c
theorem sideI_def (m x k e c h : Int) : sideI m x k e c h = if k * e - h < 0 then m * pw x k - shl c (-(k * e - h)) else shl (m * pw x k) (k * e - h) - c := by unfold sideI; rfl
section
variable {prog : Program} {w : World} {A : Around} {E : Value → Shared → Prop} {s : Shared} {a n b : Int} {t u : Tok} {Q : Value → Shared → Prop}
theorem r_pow (hn : 0 ≤ n) (hn2 : n ≤ 10) (hb : bI a ≤ 100000) (h : Q (.int (pw a n) s.toks) { s with toks := s.toks + 1 }) : wpAny (model prog w) A (binaryOp .Pow (.int a t) (.int n u)) Q E s := by
  rw [pw_def] at h
  refine pow_int hn ?_ h
  have h1 : bI a * n ≤ 100000 * 10 := Int.mul_le_mul hb hn2 hn (by omega)
  have h2 : ((Builtin.Int.intBits a : Nat) : Int) * n ≤ 1000000 := h1
  omega
end
/-- what holds of v and e while the law's number is made odd -/
def NumInv (v e v' e' : Int) : Prop := 0 < v' ∧ bI v' ≤ 500 ∧ ∃ t : Nat, v = v' * 2 ^ t ∧ e' = e + t
theorem num_start {v e : Int} (h : 0 < v) (hb : bI v ≤ 500) : NumInv v e v e := ⟨h, hb, 0, by simp, by simp⟩
theorem num_turn {v e v' e' : Int} (h : NumInv v e v' e') (h2 : v' % 2 = 0) : NumInv v e (v' / 2) (e' + 1) := by
  obtain ⟨h0, hb, t, h3, h4⟩ := h
  refine ⟨by omega, Int.le_trans (bI_mono (by omega) (b := v') (by omega)) hb, t + 1, ?_, by omega⟩
  rw [h3, Int.pow_succ, Int.mul_comm (2 ^ t) 2, ← Int.mul_assoc, show v' / 2 * 2 = v' by omega]
theorem num_end {v e v' e' : Int} {c : Nat} {t1 t2 t3 t4 : Tok} (h : NumInv v e v' e') (h2 : ¬ v' % 2 = 0) : IsSg (tup4 c 0 t1 v' t2 e' t3 (bI v') t4) 0 v e := by
  obtain ⟨h0, hb, t, h3, h4⟩ := h
  obtain ⟨n, rfl⟩ := toN (Int.le_of_lt h0)
  have h5 : v = ((n * 2 ^ t : Nat) : Int) := by rw [h3, Int.natCast_mul, Int.natCast_pow]; rfl
  have h6 : n % 2 = 1 := by omega
  have hn : 0 < n := by omega
  have e1 : odI v = (n : Int) := by rw [h5, odI_def, Int.toNat_natCast, od_shift hn, od_odd h6]
  have e2 : tzI v = (t : Int) := by rw [h5, tzI_def, Int.toNat_natCast, tz_mul hn, tz_odd h6]; omega
  refine ⟨c, t1, t2, t3, t4, ?_⟩
  rw [e1, e2, h4]
section
open PyProof.V
variable {prog : Program} {w : World} {A : Around} {E : Value → Shared → Prop} {s : Shared} {env : Env} {h₀ : Heap} {x : Str} {body : List Stmt} {Q : Flow → Shared → Prop}
/-- a loop over a tuple of the ledger, whose turn changes nothing but its own name -/
theorem iter_tup {t : Addr} {lo : Obj} {items : List Value} {n : Nat} {m₀ : Str → Option Value} {news : List (Addr × Obj)}
    (hh : A.handled = none) (F : Fr h₀ env.locals s.heap m₀) (N : News h₀ env.locals s.heap news) (hm : (t, lo) ∈ news) (hc : lo.cls = .type "tuple") (hd : lo.data = .seq items.toArray n)
    (turn : ∀ v (own : List (Addr × Obj)) h tk, v ∈ items → Fr h₀ env.locals h (fun y => if y = x then some v else m₀ y) → News h₀ env.locals h (own ++ news) →
      wpAny (model prog w) A (execs body env) (fun f s' => f = .next ∧ ∃ h' tk', s' = { s with heap := h', toks := tk' } ∧ Fr h₀ env.locals h' (fun y => if y = x then some v else m₀ y) ∧ News h₀ env.locals h' (own ++ news)) E { s with heap := h, toks := tk })
    (done : ∀ (u : Str → Option Value) h tk, Fr h₀ env.locals h (fun y => if y = x then u y else m₀ y) → News h₀ env.locals h news → Q .next { s with heap := h, toks := tk }) :
    wpAny (model prog w) A (pyIter (.ref t)) (fun it s₂ => LoopAtV prog w A h₀ env x body Q E it s₂) E s := by
  have hax := N _ hm
  have hl : s.heap.IsTuple t items.toArray := ⟨lo, hax.1, hc, n, hd⟩
  have hlt : t < s.heap.objs.size := Heap.lt_size hax.1
  have hne : t ≠ s.heap.objs.size := Nat.ne_of_lt hlt
  refine wpAny_pyIter_tuple hl ?_
  have W := Walks.tuple (prog := prog) (w := w) hh s.heap.objs.size t hne items.toArray
  have hnew : h₀.get? s.heap.objs.size = none := by
    cases hq : h₀.get? s.heap.objs.size with
    | none => rfl
    | some o' => exact absurd (Heap.lt_size (F.keep _ _ hq)) (Nat.lt_irrefl _)
  let J : Nat → (Str → Option Value) → List (Addr × Obj) → Prop := fun _ m₁ news₁ => news₁ = news ∧ ∀ y, y ≠ x → m₁ y = m₀ y
  refine ⟨_, _, _, _, _, _, m₀, news, J, rfl, W, ?_, ?_, ?_, ⟨⟨_, Heap.get?_push_size _ rfl, rfl, rfl⟩, hl.push _⟩, F.push _, (fun p hp => ⟨Heap.get?_push_of_some _ (N p hp).1, (N p hp).2⟩), ⟨rfl, fun _ _ => rfl⟩, ?_, ?_⟩
  · intro hmm
    rcases List.mem_cons.mp hmm with e | hmm
    · exact absurd F.ns.lt (e ▸ Nat.lt_irrefl _)
    · exact hax.2.1 (List.mem_singleton.mp hmm).symm
  · intro b hb
    rw [List.mem_singleton.mp hb]; exact hnew
  · intro p hp hI
    exact absurd (Heap.lt_size (N p hp).1) ((List.mem_singleton.mp hI) ▸ Nat.lt_irrefl _)
  · rintro i v m₁ news₁ s₁ own ⟨hh', tk', rfl⟩ hin hP ⟨rfl, hJ⟩ hoff hown _ _ _ F₁ N₁
    have e : (fun y => if y = x then some v else m₁ y) = fun y => if y = x then some v else m₀ y := by
      funext y
      by_cases h1 : y = x
      · simp [h1]
      · simp [h1, hJ y h1]
    rw [e] at F₁
    have hv : v ∈ items := List.mem_of_getElem? (by simpa using hP)
    refine wpAny_mono (turn v own hh' tk' hv F₁ N₁) (fun f s₂ p => ?_) fun _ _ e => e
    obtain ⟨rfl, h', tk2, rfl, F', N'⟩ := p
    exact .next ⟨rfl, h', tk2, _, news₁, rfl, F', N', hoff, rfl, fun y hy => by simp [hy]⟩
  · rintro h' tk m' news' F' N' _ ⟨rfl, hJ⟩
    have e : m' = fun y => if y = x then m' y else m₀ y := by
      funext y
      by_cases h1 : y = x
      · simp [h1]
      · simp [h1, hJ y h1]
    rw [e] at F'
    exact done _ h' tk F' N'
end
theorem r_ifdiv {prog : Program} {w : World} {A : Around} {E : Value → Shared → Prop} {s : Shared} {a b : Int} {t u : Tok} {Q : Value → Shared → Prop} (hb : 0 < b) (hs : bI b ≤ 8000) (h : Q (.int (a / b) s.toks) { s with toks := s.toks + 1 }) : wpAny (model prog w) A (inplaceOp .FloorDiv (.int a t) (.int b u)) Q E s :=
  ifloordiv_int (by omega) (by rw [Int.fdiv_eq_ediv_of_nonneg _ (by omega)]; exact h) (Or.inl (nopy hs))
theorem r_mod {prog : Program} {w : World} {A : Around} {E : Value → Shared → Prop} {s : Shared} {a b : Int} {t u : Tok} {Q : Value → Shared → Prop} (hb : 0 < b) (hs : bI b ≤ 8000) (h : Q (.int (a % b) s.toks) { s with toks := s.toks + 1 }) : wpAny (model prog w) A (binaryOp .Mod (.int a t) (.int b u)) Q E s :=
  mod_int' (by omega) (by rw [Int.fmod_eq_emod_of_nonneg _ (by omega)]; exact h)
local macro_rules | `(tactic| walk_at "exec For Name Name cons nil") => `(tactic| (refine Halt.out ?_))
local macro_rules | `(tactic| walk_at "exec For Name Call cons nil") => `(tactic| (refine Halt.out ?_))
local macro_rules | `(tactic| walk_at "inplaceOp FloorDiv int int") => `(tactic| (with_reducible refine r_ifdiv ?h1 ?h2 ?_; (case h1 => walk_at "my nn"); (case h2 => walk_at "my nn")))
local macro_rules | `(tactic| walk_at "binaryOp Mod int int") => `(tactic| (with_reducible refine r_mod ?h1 ?h2 ?_; (case h1 => walk_at "my nn"); (case h2 => walk_at "my nn")))
local macro_rules | `(tactic| walk_at "binaryOp Pow int int") => `(tactic| (with_reducible refine r_pow ?h1 ?h2 ?h3 ?_; (case h1 => walk_at "my nn"); (case h2 => walk_at "my nn"); (case h3 => walk_at "my nn")))
section
variable {w : World} {loose : List Str} {mean : ExcName → Option Value} {mg mb : Str → Option Value}
   {dp un : Nat} {gd : Option (List Code)} {cn : Str} {cs : Scope} {a : Addr} {ccd : Value} {cl : List (Str × Addr)} {outer : List Env} {A₀ : Around} {base h₀ : Heap} {L : Addr} {m : Str → Option Value} {news : List (Addr × Obj)} {s : Shared} {Q E : Value → Shared → Prop}
   (B : Below A₀ base outer h₀) (F : Fr h₀ L s.heap m) (X : (Mine.hd.heap_39 w.params).In h₀) (N : News h₀ L s.heap news) (T : Top Mine.hd.view_39 loose mean mg mb h₀) (hk : cs.kind = .function)
include B F X N T hk
theorem t_draw {l : Addr} {vs : List Value} {ns : List Int} {i n : Int} {k1 k2 : Tok} (hd : dp + 1 < recursionLimit) (hu : un + 8 < cLine)
   (hl : base.IsList l vs.toArray) (hi : IntsAre vs ns) (hlen : ns.length ≤ 63) (h0 : 0 ≤ i) (hn : 0 < n) (hnb : bI n ≤ 8000)
   (hret : ∀ r, 0 ≤ r → r < n → Ret1 h₀ L m news s Q (fun t => Value.int r t)) :
   wpAny (model PySem.Challenge.rw_aa5011_01.row.prog w) (ktrTop dp un gd cn cs L a ccd cl outer) (call (.ref 205) [.ref l, .int i k1, .int n k2]) Q E s := by
  revert X; k_fill; intro X
  refine wpAny_call ?_
  k_dflt walk_at "my enter"
  walk_at "my steps"
  all_goals exact hret _ (by first | exact Int.emod_nonneg _ (by omega) | exact Int.fmod_nonneg_of_pos _ hn) (by first | exact Int.emod_lt_of_pos _ hn | exact Int.fmod_lt_of_pos _ hn) _ _ _ (by assumption) (by assumption)
theorem t_side {m' x k e c h : Int} {k1 k2 k3 k4 k5 k6 : Tok} (hd : dp + 1 < recursionLimit) (hu : un + 8 < cLine)
   (g1 : 1 ≤ k) (g2 : k ≤ 4) (g3 : bI m' ≤ 100) (g4 : bI x ≤ 100) (g5 : bI c ≤ 100) (g6 : k * e - h ≤ 10000) (g7 : -10000 ≤ k * e - h) (g8 : bI (pw x k) ≤ 100) (g9 : bI (m' * pw x k) ≤ 200) (g10 : bI k ≤ 100) (g11 : bI e ≤ 100)
   (hret : Ret1 h₀ L m news s Q (fun t => Value.int (sideI m' x k e c h) t)) :
   wpAny (model PySem.Challenge.rw_aa5011_01.row.prog w) (ktrTop dp un gd cn cs L a ccd cl outer) (call (.ref 219) [.int m' k1, .int x k2, .int k k3, .int e k4, .int c k5, .int h k6]) Q E s := by
  revert X; k_fill; intro X
  refine wpAny_call ?_
  k_dflt walk_at "my enter"
  walk_at "my steps"
  · exact cb_retI hret (by rw [sideI_def, if_pos (by assumption)]) (by assumption) (by assumption)
  · exact cb_retI hret (by rw [sideI_def, if_neg (by assumption)]) (by assumption) (by assumption)
theorem t_form {D1 : Nat} {o1 : Obj} {M : Nat} {Ex p : Int} {k1 : Tok} (hd : dp + 1 < recursionLimit) (hu : un + 500 < cLine)
   (hs : (D1, o1) ∈ news) (i1 : IsSg o1 0 M Ex) (h1 : 0 < M) (hb : bI (odI M) ≤ p)
   (hret : Ret1 h₀ L m news s Q (fun _ => Value.bool true)) :
   wpAny (model PySem.Challenge.rw_aa5011_01.row.prog w) (ktrTop dp un gd cn cs L a ccd cl outer) (call (.ref 212) [.ref D1, .int p k1]) Q E s := by
  revert X; k_fill; intro X
  obtain ⟨c1, a1, a2, a3, a4, rfl⟩ := i1
  have y1 := odI_pos h1
  have y2 : (odI (M : Int)) % 2 = 1 := by
    rw [odI_def, Int.toNat_natCast]; have := od_oddness h1; omega
  refine wpAny_call ?_
  k_dflt walk_at "my enter"
  walk_at "my steps"
  refine Halt.mk ?_
  rename Fr _ _ _ _ => lF'
  with_unfolding_all refine' For_invVF lF' ?k1 ?k2 ?_
  (case k1 => exact rfl); (case k2 => exact rfl)
  walk_at "my steps"
  rename News _ _ _ _ => lN'
  with_unfolding_all refine' iter_tup (by rfl) lF' lN' hs (by rfl) (items := [.int 0 a1, .int (odI M) a2, .int (Ex + tzI M) a3, .int (bI (odI M)) a4]) (by rfl) ?turn ?done
  case turn =>
    intro v own h9 tk9 hv F9 N9
    obtain ⟨i9, t9, rfl⟩ : ∃ i t, v = .int i t := by
      simp only [List.mem_cons, List.not_mem_nil, or_false] at hv
      rcases hv with rfl | rfl | rfl | rfl <;> exact ⟨_, _, rfl⟩
    clear hv lF' lN'
    walk_at "my steps"
    all_goals assumption
  case done =>
    intro u9 h9 tk9 F9 N9
    clear lF' lN'
    (try dsimp only)
    walk_at "my steps"
    all_goals first
      | (exfalso; omega)
      | exact cb_retB hret (decide_eq_true hb) (by assumption) (cb_drop (by assumption) (by walk_at "my sub"))
      | exact absurd rfl (by assumption)
theorem t_number {v e : Int} {k1 k2 : Tok} (hd : dp + 1 < recursionLimit) (hu : un + 8 < cLine) (h1 : 0 < v) (hb : bI v ≤ 500)
   (hret : RetT h₀ L m news s Q (fun o => IsSg o 0 v e)) :
   wpAny (model PySem.Challenge.rw_aa5011_01.row.prog w) (ktrTop dp un gd cn cs L a ccd cl outer) (call (.ref 226) [.int v k1, .int e k2]) Q E s := by
  revert X; k_fill; intro X
  refine wpAny_call ?_
  k_dflt walk_at "my enter"
  walk_at "my steps"
  refine Halt.mk ?_
  have hS := num_start (e := e) h1 hb
  k_while (fun (_ : List Int) (v' : Int) (e' : Int) => NumInv v e v' e') (fun (_ : List Int) (v' : Int) (e' : Int) => v'.toNat) "v" "e"
  clear hS
  rename NumInv _ _ _ _ => hI
  have hI0 := hI.1
  have hI1 := hI.2.1
  have hb2 : bI 2 = 2 := by decide +kernel
  k_with "state" => exact num_turn hI (by assumption)
  walk_at "my steps"
  k_with_none
  exact hret _ _ _ _ (num_end hI (by assumption)) (by assumption) (by assumption)
end
/-! M7 -/
/-! the bisection: numbers of p bits in units of half the grid of [2^p, 2^(p+1)] -/
def Grid (p X : Nat) : Prop := 2 ^ (p - 1) ≤ X ∧ X ≤ 2 ^ (p + 2) ∧ (2 ^ p ≤ X → X % 2 = 0) ∧ (2 ^ (p + 1) ≤ X → X % 4 = 0)
theorem pw_facts {p : Nat} (hp : 1 ≤ p) : ∃ Z, 0 < Z ∧ 2 ^ (p - 1) = Z ∧ 2 ^ p = 2 * Z ∧ 2 ^ (p + 1) = 4 * Z ∧ 2 ^ (p + 2) = 8 * Z ∧ 2 ^ (p + 3) = 16 * Z := by
  obtain ⟨j, rfl⟩ : ∃ j, p = j + 1 := ⟨p - 1, by omega⟩
  refine ⟨2 ^ j, pos2 j, rfl, ?_, ?_, ?_, ?_⟩ <;> simp only [Nat.pow_succ] <;> omega
/-- the middle of two such numbers, in the same units -/
def midN (p S : Nat) : Nat := rd 2 S p * 2 ^ (rsh S p - 1)
theorem rsh_of {p S k : Nat} (h0 : 0 < S) (h : 2 ^ (p + k) ≤ S) (h' : S < 2 ^ (p + k + 1)) : rsh S p = k + 1 := by
  have := (bl_iff (k := p + k) h0).mpr ⟨h, h'⟩
  unfold rsh; omega
theorem rd2_eq (S p s : Nat) (h : rsh S p = s) : rd 2 S p = if 2 * (S % 2 ^ s) > 2 ^ s ∨ (2 * (S % 2 ^ s) = 2 ^ s ∧ S / 2 ^ s % 2 = 1) then S / 2 ^ s + 1 else S / 2 ^ s := by
  unfold rd; rw [h]; rfl
theorem mid_cases {p S : Nat} (hp : 1 ≤ p) (h : 2 ^ p ≤ S) (h' : S < 2 ^ (p + 3)) :
    (S < 2 ^ (p + 1) ∧ rsh S p = 1 ∧ midN p S = (if S % 2 = 1 ∧ S / 2 % 2 = 1 then S / 2 + 1 else S / 2)) ∨
    (2 ^ (p + 1) ≤ S ∧ S < 2 ^ (p + 2) ∧ rsh S p = 2 ∧ midN p S = 2 * (if S % 4 = 3 ∨ (S % 4 = 2 ∧ S / 4 % 2 = 1) then S / 4 + 1 else S / 4)) ∨
    (2 ^ (p + 2) ≤ S ∧ rsh S p = 3 ∧ midN p S = 4 * (if S % 8 > 4 ∨ (S % 8 = 4 ∧ S / 8 % 2 = 1) then S / 8 + 1 else S / 8)) := by
  have h0 : 0 < S := Nat.lt_of_lt_of_le (pos2 p) h
  by_cases h1 : S < 2 ^ (p + 1)
  · left
    have hs := rsh_of (k := 0) h0 h h1
    refine ⟨h1, hs, ?_⟩
    unfold midN
    rw [hs, rd2_eq _ _ _ hs]
    simp only [Nat.zero_add, Nat.pow_one, Nat.sub_self, Nat.pow_zero, Nat.mul_one]
    by_cases g : S % 2 = 1 ∧ S / 2 % 2 = 1
    · rw [if_pos g, if_pos (by omega)]
    · rw [if_neg g, if_neg (by omega)]
  · right
    by_cases h2 : S < 2 ^ (p + 2)
    · left
      have hs := rsh_of (k := 1) h0 (by omega) h2
      refine ⟨by omega, h2, hs, ?_⟩
      unfold midN
      rw [hs, rd2_eq _ _ _ hs]
      simp only [show (1 + 1 : Nat) = 2 from rfl, show (2 - 1 : Nat) = 1 from rfl, show (2 ^ 2 : Nat) = 4 from rfl, Nat.pow_one]
      by_cases g : S % 4 = 3 ∨ (S % 4 = 2 ∧ S / 4 % 2 = 1)
      · rw [if_pos g, if_pos (by omega)]; omega
      · rw [if_neg g, if_neg (by omega)]; omega
    · right
      have hs := rsh_of (k := 2) h0 (by omega) h'
      refine ⟨by omega, hs, ?_⟩
      unfold midN
      rw [hs, rd2_eq _ _ _ hs]
      simp only [show (2 + 1 : Nat) = 3 from rfl, show (3 - 1 : Nat) = 2 from rfl, show (2 ^ 3 : Nat) = 8 from rfl, show (2 ^ 2 : Nat) = 4 from rfl]
      by_cases g : S % 8 > 4 ∨ (S % 8 = 4 ∧ S / 8 % 2 = 1)
      · rw [if_pos g, if_pos (by omega)]; omega
      · rw [if_neg g, if_neg (by omega)]; omega
/-- what the middle does -/
theorem mid_facts {p A B : Nat} (hp : 1 ≤ p) (hA : Grid p A) (hB : Grid p B) (hlt : A < B) :
    Grid p (midN p (A + B)) ∧ A ≤ midN p (A + B) ∧ midN p (A + B) ≤ B ∧ 2 * midN p (A + B) ≤ A + B + 4 ∧ A + B ≤ 2 * midN p (A + B) + 4 ∧ 1 ≤ rsh (A + B) p ∧
    ((midN p (A + B) = A ∨ midN p (A + B) = B) → (A < 2 ^ p ∧ B = A + 1) ∨ (2 ^ p ≤ A ∧ B = A + 2) ∨ (2 ^ (p + 1) ≤ A ∧ B = A + 4)) := by
  obtain ⟨Z, hZ, z1, z2, z3, z4, z5⟩ := pw_facts hp
  obtain ⟨a1, a2, a3, a4⟩ := hA
  obtain ⟨b1, b2, b3, b4⟩ := hB
  have hc := @mid_cases p (A + B) hp (by omega) (by omega)
  unfold Grid
  rw [z1, z4] at *
  rw [z2] at *
  rw [z3] at *
  rcases hc with ⟨h1, h2, h3⟩ | ⟨h1, h1', h2, h3⟩ | ⟨h1, h2, h3⟩
  · rw [h2, h3]
    split <;> refine ⟨⟨?_, ?_, ?_, ?_⟩, ?_, ?_, ?_, ?_, ?_, ?_⟩ <;> omega
  · rw [h2, h3]
    split <;> refine ⟨⟨?_, ?_, ?_, ?_⟩, ?_, ?_, ?_, ?_, ?_, ?_⟩ <;> omega
  · rw [h2, h3]
    split <;> refine ⟨⟨?_, ?_, ?_, ?_⟩, ?_, ?_, ?_, ?_, ?_, ?_⟩ <;> omega
/-- how many rounds may be left -/
def Room (p r W : Nat) : Prop := (r ≤ p + 2 ∧ W ≤ 2 ^ (p + 2 - r) + 4) ∨ (p + 2 < r ∧ W + r ≤ p + 7)
theorem room_start {p A B : Nat} (hB : B ≤ 2 ^ (p + 2)) : Room p 0 (B - A) := by
  left; exact ⟨by omega, by rw [Nat.sub_zero]; omega⟩
theorem room_turn {p r W W' : Nat} (h : Room p r W) (h1 : 2 * W' ≤ W + 4) (h2 : W' < W) : Room p (r + 1) W' := by
  rcases h with ⟨h3, h4⟩ | ⟨h3, h4⟩
  · by_cases h5 : r + 1 ≤ p + 2
    · left
      refine ⟨h5, ?_⟩
      rw [show p + 2 - r = (p + 2 - (r + 1)) + 1 by omega, Nat.pow_succ] at h4
      omega
    · right
      have : r = p + 2 := by omega
      subst this
      rw [Nat.sub_self] at h4
      omega
  · right; omega
theorem room_ok {p r W : Nat} (h : Room p r W) (hW : 2 ≤ W) : r < p + 8 := by
  rcases h with h | h <;> omega
theorem grid_bits {p X : Nat} (hp : 1 ≤ p) (h : Grid p X) : bl (od X) ≤ p := by
  obtain ⟨Z, hZ, z1, z2, z3, z4, z5⟩ := pw_facts hp
  obtain ⟨a1, a2, a3, a4⟩ := h
  have key : ∀ Y, 0 < Y → Y ≤ 2 ^ p → bl (od Y) ≤ p := by
    intro Y h0 hY
    by_cases h : Y < 2 ^ p
    · exact Nat.le_trans (od_bl h0) (bl_le_of_lt h)
    · have e : Y = 1 * 2 ^ p := by omega
      rw [e, od_shift (by omega), od_odd (by omega), bl_one]; exact hp
  by_cases h1 : X ≤ 2 ^ p
  · exact key X (by omega) h1
  · by_cases h2 : X ≤ 2 ^ (p + 1)
    · have e : X = X / 2 * 2 ^ 1 := by have := a3 (by omega); omega
      rw [e, od_shift (by omega)]
      exact key _ (by omega) (by omega)
    · have e : X = X / 4 * 2 ^ 2 := by have := a4 (by omega); omega
      rw [e, od_shift (by omega)]
      exact key _ (by omega) (by omega)
theorem grid_pos {p X : Nat} (h : Grid p X) : 0 < X := Nat.lt_of_lt_of_le (pos2 _) h.1
theorem grid_pow {p j : Nat} (hp : 1 ≤ p) (h1 : p ≤ j + 1) (h2 : j ≤ p + 2) : Grid p (2 ^ j) := by
  have e : j = p - 1 ∨ j = p ∨ j = p + 1 ∨ j = p + 2 := by omega
  obtain ⟨Z, hZ, z1, z2, z3, z4, z5⟩ := pw_facts hp
  unfold Grid
  rcases e with e | e | e | e <;> subst e <;> rw [z1, z2, z3, z4] <;> omega
/-! M8 -/
/-! m x^k 2^(k u) against c 2^h, by whole numbers -/
def up (k : Nat) (h u : Int) : Nat := ((k : Int) * u - h).toNat
def dn (k : Nat) (h u : Int) : Nat := (-((k : Int) * u - h)).toNat
def LE (m k c : Nat) (h : Int) (x : Nat) (u : Int) : Prop := m * x ^ k * 2 ^ up k h u ≤ c * 2 ^ dn k h u
abbrev EQ (m k c : Nat) (h : Int) (x : Nat) (u : Int) : Prop := m * x ^ k * 2 ^ up k h u = c * 2 ^ dn k h u
section
variable {m k c : Nat} {h : Int} {x y j : Nat} {u : Int}
theorem le_mono (hxy : x ≤ y) (hy : LE m k c h y u) : LE m k c h x u :=
  Nat.le_trans (Nat.mul_le_mul_right _ (Nat.mul_le_mul_left _ (Nat.pow_le_pow_left hxy k))) hy
theorem lt_of_le (hx : LE m k c h x u) (hy : ¬ LE m k c h y u) : x < y := Nat.lt_of_not_le fun h' => hy (le_mono h' hx)
theorem scale_exp (k j : Nat) (h u : Int) : ∃ s, dn k h u = dn k h (u + j) + s ∧ up k h u + j * k = up k h (u + j) + s := by
  refine ⟨dn k h u - dn k h (u + j), ?_⟩
  have e : (k : Int) * (u + j) = k * u + ((j * k : Nat) : Int) := by rw [Int.mul_add, Int.natCast_mul, Int.mul_comm (j : Int)]
  unfold dn up
  rw [e]
  generalize (k : Int) * u = t
  generalize j * k = q
  omega
theorem scale_eq : m * (x * 2 ^ j) ^ k * 2 ^ up k h u = m * x ^ k * 2 ^ (up k h u + j * k) := by
  rw [Nat.mul_pow, ← Nat.pow_mul, Nat.pow_add]; ac_rfl
theorem le_scale : LE m k c h (x * 2 ^ j) u ↔ LE m k c h x (u + j) := by
  obtain ⟨s, h1, h2⟩ := scale_exp k j h u
  unfold LE
  rw [scale_eq, h1, h2, Nat.pow_add, Nat.pow_add, ← Nat.mul_assoc, ← Nat.mul_assoc]
  exact Nat.mul_le_mul_right_iff (pos2 s)
theorem eq_scale : EQ m k c h (x * 2 ^ j) u ↔ EQ m k c h x (u + j) := by
  obtain ⟨s, h1, h2⟩ := scale_exp k j h u
  unfold EQ
  rw [scale_eq, h1, h2, Nat.pow_add, Nat.pow_add, ← Nat.mul_assoc, ← Nat.mul_assoc]
  exact Nat.mul_left_inj (by have := pos2 s; omega)
theorem side_nat : sideI m x k u c h = ((m * x ^ k * 2 ^ up k h u : Nat) : Int) - ((c * 2 ^ dn k h u : Nat) : Int) := by
  rw [sideI_def, pw_def, Int.toNat_natCast]
  have e : (m : Int) * (x : Int) ^ k = ((m * x ^ k : Nat) : Int) := by rw [Int.natCast_mul, Int.natCast_pow]
  rw [e]
  unfold up dn
  split
  · rename_i hneg
    obtain ⟨b, hb⟩ : ∃ b : Nat, -((k : Int) * u - h) = (b : Int) := toN (by omega)
    have ha : ((k : Int) * u - h).toNat = 0 := by omega
    rw [hb, shl_nat, ha, Int.toNat_natCast, Nat.pow_zero, Nat.mul_one]
  · obtain ⟨a, ha⟩ : ∃ a : Nat, (k : Int) * u - h = (a : Int) := toN (by omega)
    have hb : (-((k : Int) * u - h)).toNat = 0 := by omega
    rw [hb, ha, shl_nat, Int.toNat_natCast, Nat.pow_zero, Nat.mul_one]
theorem side_le : sideI m x k u c h ≤ 0 ↔ LE m k c h x u := by rw [side_nat]; unfold LE; omega
theorem side_zero : sideI m x k u c h = 0 ↔ EQ m k c h x u := by rw [side_nat]; unfold EQ; omega
end
/-- the law's numbers -/
structure Dat where
  p : Nat
  k : Nat
  m : Nat
  c : Nat
  h : Int
structure Dat.Ok (d : Dat) : Prop where
  p1 : 5 ≤ d.p
  p2 : d.p ≤ 12
  k1 : 1 ≤ d.k
  k2 : d.k ≤ 4
  m1 : 1 ≤ d.m
  m2 : d.m ≤ 64
  c1 : 1 ≤ d.c
  c2 : d.c < 2 ^ 25
  h1 : -20 ≤ d.h
  h2 : d.h ≤ 20
  ev : d.k % 2 = 0 → d.m = 1
abbrev Dat.LE (d : Dat) (x : Nat) (u : Int) : Prop := Mine.LE d.m d.k d.c d.h x u
abbrev Dat.EQ (d : Dat) (x : Nat) (u : Int) : Prop := Mine.EQ d.m d.k d.c d.h x u
/-- e is the binade of the root -/
structure Dat.At (d : Dat) (e : Int) : Prop where
  lo : d.LE 1 e
  hi : ¬ d.LE 1 (e + 1)
  b : -20 ≤ d.k * e - d.h
theorem kcases {k : Nat} (h1 : 1 ≤ k) (h2 : k ≤ 4) : k = 1 ∨ k = 2 ∨ k = 3 ∨ k = 4 := by omega
theorem Dat.Ok.above {d : Dat} (D : d.Ok) {e : Int} (h : d.LE 1 e) : d.k * e - d.h < 25 := by
  have hm := D.m1
  have hc := D.c2
  unfold Dat.LE Mine.LE at h
  rw [Nat.one_pow, Nat.mul_one] at h
  refine Int.lt_of_not_ge fun hge => ?_
  have e1 : dn d.k d.h e = 0 := by unfold dn; omega
  have e2 : 2 ^ 25 ≤ 2 ^ up d.k d.h e := Nat.pow_le_pow_right (by omega) (by unfold up; omega)
  rw [e1, Nat.pow_zero, Nat.mul_one] at h
  have e3 : 1 * 2 ^ up d.k d.h e ≤ d.m * 2 ^ up d.k d.h e := Nat.mul_le_mul_right _ hm
  omega
/-- where the search for e begins -/
theorem Dat.Ok.start {d : Dat} (D : d.Ok) {e : Int} (he : e = ((bl d.c : Int) + d.h - (bl d.m : Int)) / d.k - 2) : d.LE 1 e ∧ -20 ≤ d.k * e - d.h := by
  have hk := D.k1
  have hk2 := D.k2
  have h1 := Int.emod_add_mul_ediv ((bl d.c : Int) + d.h - (bl d.m : Int)) d.k
  have h2 := Int.emod_nonneg ((bl d.c : Int) + d.h - (bl d.m : Int)) (b := (d.k : Int)) (by omega)
  have h3 := Int.emod_lt_of_pos ((bl d.c : Int) + d.h - (bl d.m : Int)) (b := (d.k : Int)) (by omega)
  have hm : bl d.m ≤ 7 := bl_le_of_lt (by have := D.m2; omega)
  have hc : 1 ≤ bl d.c := bl_pos D.c1
  have e1 : (d.k : Int) * e = (d.k : Int) * (((bl d.c : Int) + d.h - (bl d.m : Int)) / d.k) - 2 * d.k := by
    rw [he, Int.mul_sub]; omega
  have hlo := bl_low D.c1
  have hhi := bl_high d.m
  generalize (d.k : Int) * (((bl d.c : Int) + d.h - (bl d.m : Int)) / d.k) = t at *
  generalize ((bl d.c : Int) + d.h - (bl d.m : Int)) % d.k = r at *
  refine ⟨?_, by omega⟩
  unfold Dat.LE Mine.LE
  rw [Nat.one_pow, Nat.mul_one]
  calc d.m * 2 ^ up d.k d.h e ≤ 2 ^ bl d.m * 2 ^ up d.k d.h e := Nat.mul_le_mul_right _ (Nat.le_of_lt hhi)
    _ = 2 ^ (bl d.m + up d.k d.h e) := by rw [Nat.pow_add]
    _ ≤ 2 ^ (bl d.c - 1 + dn d.k d.h e) := Nat.pow_le_pow_right (by omega) (by unfold up dn; omega)
    _ = 2 ^ (bl d.c - 1) * 2 ^ dn d.k d.h e := by rw [Nat.pow_add]
    _ ≤ d.c * 2 ^ dn d.k d.h e := Nat.mul_le_mul_right _ hlo
/-! M9 -/
theorem bl_powk {x b : Nat} (h : bl x ≤ b) : ∀ k, 1 ≤ k → bl (x ^ k) ≤ b * k
  | 1, _ => by rw [Nat.pow_one, Nat.mul_one]; exact h
  | k + 2, _ => by
    rw [Nat.pow_succ, Nat.mul_succ]
    exact bl_mul (bl_powk h (k + 1) (by omega)) h
section
variable {d : Dat} (D : d.Ok) {e : Int} (H : d.At e)
include D H
theorem At.bounds : -20 ≤ d.k * e - d.h ∧ d.k * e - d.h < 25 ∧ -40 ≤ e ∧ e ≤ 45 := by
  have h1 := H.b
  have h2 := D.above H.lo
  have h3 := D.h1
  have h4 := D.h2
  refine ⟨h1, h2, ?_⟩
  rcases kcases D.k1 D.k2 with h | h | h | h <;> rw [h] at h1 h2 <;> omega
theorem At.low (j : Nat) (hj : j ≤ d.p) : -68 ≤ d.k * (e - j) - d.h ∧ d.k * (e - j) - d.h < 25 := by
  have h1 := H.b
  have h2 := D.above H.lo
  have h5 := D.p2
  rw [Int.mul_sub]
  rcases kcases D.k1 D.k2 with h | h | h | h <;> rw [h] at h1 h2 ⊢ <;> omega
theorem At.dn_le (j : Nat) (hj : j ≤ d.p) : dn d.k d.h (e - j) ≤ 68 ∧ up d.k d.h (e - j) ≤ 24 := by
  have := At.low D H j hj
  unfold up dn; omega
/-- what the comparison of a height with the goal says -/
theorem At.cmp {X : Nat} (hX : 0 < X) (hX2 : X ≤ 2 ^ (d.p + 2)) {oh og : Obj} (ih : IsSg oh 0 ((d.m * X ^ d.k : Nat) : Int) (d.k * (e - d.p))) (ig : IsSg og 0 (d.c : Int) d.h) :
    ∃ (M1 M2 : Nat) (E0 : Int), IsSg oh 0 M1 E0 ∧ IsSg og 0 M2 E0 ∧ 0 < M1 ∧ 0 < M2 ∧ bl M1 ≤ 100 ∧ bl M2 ≤ 100 ∧ (cmpI M1 M2 > 0 ↔ ¬ d.LE X (e - d.p)) := by
  have hb := At.dn_le D H d.p (Nat.le_refl _)
  have hp2 := D.p2
  have hk := D.k2
  have hm0 : 0 < d.m := D.m1
  have hxk : 0 < X ^ d.k := Nat.pow_pos hX
  have hA : 0 < d.m * X ^ d.k := Nat.mul_pos hm0 hxk
  have hc : 0 < d.c := D.c1
  refine ⟨d.m * X ^ d.k * 2 ^ up d.k d.h (e - d.p), d.c * 2 ^ dn d.k d.h (e - d.p), d.k * (e - d.p) - up d.k d.h (e - d.p), ?_, ?_, ?_, ?_, ?_, ?_, ?_⟩
  · rw [isSg_shift hA, show d.k * (e - d.p) - (up d.k d.h (e - d.p) : Int) + (up d.k d.h (e - d.p) : Int) = d.k * (e - d.p) by omega]; exact ih
  · rw [isSg_shift hc, show d.k * (e - d.p) - (up d.k d.h (e - d.p) : Int) + (dn d.k d.h (e - d.p) : Int) = d.h by unfold up dn; omega]; exact ig
  · exact Nat.mul_pos hA (pos2 _)
  · exact Nat.mul_pos hc (pos2 _)
  · rw [bl_shift hA]
    have h1 : bl d.m ≤ 7 := bl_le_of_lt (by have := D.m2; omega)
    have h2 : bl X ≤ 15 := bl_le_of_lt (Nat.lt_of_le_of_lt hX2 (Nat.pow_lt_pow_right (by omega) (by omega)))
    have h3 := bl_powk h2 d.k D.k1
    have h4 := bl_mul h1 h3
    omega
  · rw [bl_shift hc]
    have := bl_le_of_lt D.c2
    omega
  · unfold Dat.LE Mine.LE cmpI
    generalize d.m * X ^ d.k * 2 ^ up d.k d.h (e - d.p) = a
    generalize d.c * 2 ^ dn d.k d.h (e - d.p) = b
    split
    · simp; omega
    · split <;> simp <;> omega
/-- the units of the grid: v of it, and halves -/
theorem At.le_one (j : Nat) : d.LE (2 ^ j) (e - j) ∧ ¬ d.LE (2 ^ (j + 1)) (e - j) := by
  have h1 := (@le_scale d.m d.k d.c d.h 1 j (e - j)).mpr (by rw [show e - (j : Int) + j = e by omega]; exact H.lo)
  have h2 := fun x => H.hi (by have := (@le_scale d.m d.k d.c d.h 1 (j + 1) (e - j)).mp x; rwa [show e - (j : Int) + ((j + 1 : Nat) : Int) = e + 1 by omega] at this)
  rw [Nat.one_mul] at h1 h2
  exact ⟨h1, h2⟩
theorem own_start : d.LE 0 (e - (d.p - 1 : Nat)) ∧ ¬ d.LE (0 + 2 ^ d.p) (e - (d.p - 1 : Nat)) := by
  have h1 := At.le_one D H (d.p - 1)
  have := D.p1
  rw [show d.p - 1 + 1 = d.p by omega] at h1
  rw [Nat.zero_add]
  exact ⟨le_mono (Nat.zero_le _) h1.1, h1.2⟩
omit D H in
theorem own_turn {u : Int} {own j : Nat} (h : ¬ d.LE (own + 2 ^ (j + 1)) u) (h2 : d.LE (own + 2 ^ j) u) : ¬ d.LE (own + 2 ^ j + 2 ^ j) u := by
  rw [Nat.add_assoc, show 2 ^ j + 2 ^ j = 2 ^ (j + 1) by rw [Nat.pow_succ]; omega]; exact h
theorem own_range {own : Nat} (h1 : d.LE own (e - (d.p - 1 : Nat))) (h2 : ¬ d.LE (own + 1) (e - (d.p - 1 : Nat))) : 2 ^ (d.p - 1) ≤ own ∧ own < 2 ^ d.p := by
  have h3 := At.le_one D H (d.p - 1)
  have := D.p1
  rw [show d.p - 1 + 1 = d.p by omega] at h3
  have h4 := lt_of_le h3.1 h2
  have h5 := lt_of_le h1 h3.2
  omega
/-- the bisection's end -/
theorem end_facts {A B own : Nat} (hA : Grid d.p A) (hB : Grid d.p B) (lA : d.LE A (e - d.p)) (lB : ¬ d.LE B (e - d.p))
    (hend : (A < 2 ^ d.p ∧ B = A + 1) ∨ (2 ^ d.p ≤ A ∧ B = A + 2) ∨ (2 ^ (d.p + 1) ≤ A ∧ B = A + 4))
    (h1 : d.LE own (e - (d.p - 1 : Nat))) (h2 : ¬ d.LE (own + 1) (e - (d.p - 1 : Nat))) : A = own * 2 ∧ B = (own + 1) * 2 ∧ midN d.p (A + B) = (own + own % 2) * 2 := by
  have h3 := At.le_one D H d.p
  have hp := D.p1
  have g1 := lt_of_le lA h3.2
  have g2 := lt_of_le h3.1 lB
  obtain ⟨Z, hZ, z1, z2, z3, z4, z5⟩ := pw_facts (p := d.p) (by omega)
  have g3 : 2 ^ d.p ≤ A ∧ B = A + 2 := by omega
  have g4 := hA.2.2.1 g3.1
  have e0 : e - (d.p : Int) + ((1 : Nat) : Int) = e - ((d.p - 1 : Nat) : Int) := by omega
  have s1 := fun x => @le_scale d.m d.k d.c d.h x 1 (e - d.p)
  rw [e0, Nat.pow_one] at s1
  have g5 : A = A / 2 * 2 := by omega
  have g6 : d.LE (A / 2) (e - (d.p - 1 : Nat)) := (s1 _).mp (by rw [← g5]; exact lA)
  have g7 : ¬ d.LE (A / 2 + 1) (e - (d.p - 1 : Nat)) := fun x => lB (by have := (s1 _).mpr x; rwa [show (A / 2 + 1) * 2 = B by omega] at this)
  have g8 := lt_of_le h1 g7
  have g9 := lt_of_le g6 h2
  have g10 : A / 2 = own := by omega
  refine ⟨by omega, by omega, ?_⟩
  have hc := @mid_cases d.p (A + B) (by omega) (by omega) (by omega)
  rcases hc with ⟨i1, i2, i3⟩ | ⟨i1, i1', i2, i3⟩ | ⟨i1, i2, i3⟩
  · omega
  · rw [i3]
    split <;> omega
  · omega
end
/-! M10 -/
theorem root_exists (n : Nat) : ∃ r, r * r ≤ n ∧ n < (r + 1) * (r + 1) := by
  induction n with
  | zero => exact ⟨0, by omega, by omega⟩
  | succ n ih =>
    obtain ⟨r, h1, h2⟩ := ih
    by_cases h : (r + 1) * (r + 1) ≤ n + 1
    · refine ⟨r + 1, h, ?_⟩
      have : (r + 1 + 1) * (r + 1 + 1) = (r + 1) * (r + 1) + 2 * (r + 1) + 1 := by
        rw [Nat.add_mul (r + 1) 1, Nat.mul_add]; omega
      omega
    · exact ⟨r, by omega, by omega⟩
section
variable {d : Dat} (D : d.Ok) {e : Int} (H : d.At e)
include D H
theorem div_pre (hk : d.k = 1) {own : Nat} (h1 : d.LE own (e - (d.p - 1 : Nat))) (h2 : ¬ d.LE (own + 1) (e - (d.p - 1 : Nat))) {o1 o2 o3 o4 : Obj}
    (i1 : IsSg o1 0 (d.c : Int) d.h) (i2 : IsSg o2 0 (d.c : Int) (d.h + 1)) (i3 : IsSg o3 0 (d.m : Int) 0) (i4 : IsSg o4 0 (d.m : Int) 1) :
    ∃ (M1 M2 : Nat) (E1 E2 : Int), IsSg o1 0 M1 E1 ∧ IsSg o2 0 M1 (E1 + 1) ∧ IsSg o3 0 M2 E2 ∧ IsSg o4 0 M2 (E2 + 1) ∧ 0 < M1 ∧ 0 < M2 ∧ bl M1 ≤ 100 ∧ bl M2 ≤ 100 ∧
      E1 = E2 + (e - (d.p - 1 : Nat)) ∧ own * M2 ≤ M1 ∧ M1 < (own + 1) * M2 ∧ (M1 = own * M2 ↔ d.EQ own (e - (d.p - 1 : Nat))) := by
  have hb := At.dn_le D H (d.p - 1) (by omega)
  have hm0 : 0 < d.m := D.m1
  have hc : 0 < d.c := D.c1
  have hz : (up d.k d.h (e - (d.p - 1 : Nat)) : Int) - dn d.k d.h (e - (d.p - 1 : Nat)) = e - (d.p - 1 : Nat) - d.h := by unfold up dn; rw [hk]; omega
  unfold Dat.LE Mine.LE at h1 h2
  have hE : d.EQ own (e - (d.p - 1 : Nat)) ↔ d.m * own ^ d.k * 2 ^ up d.k d.h (e - (d.p - 1 : Nat)) = d.c * 2 ^ dn d.k d.h (e - (d.p - 1 : Nat)) := Iff.rfl
  rw [hE]
  generalize hgu : up d.k d.h (e - (d.p - 1 : Nat)) = a at *
  generalize hgd : dn d.k d.h (e - (d.p - 1 : Nat)) = b at *
  rw [hk, Nat.pow_one] at *
  have e1 : own * (d.m * 2 ^ a) = d.m * own * 2 ^ a := by ac_rfl
  have e2 : (own + 1) * (d.m * 2 ^ a) = d.m * (own + 1) * 2 ^ a := by ac_rfl
  refine ⟨d.c * 2 ^ b, d.m * 2 ^ a, d.h - b, -a, ?_, ?_, ?_, ?_, Nat.mul_pos hc (pos2 _), Nat.mul_pos hm0 (pos2 _), ?_, ?_, by omega, by rw [e1]; exact h1, by rw [e2]; omega, by rw [e1]; omega⟩
  · rw [isSg_shift hc, show d.h - (b : Int) + b = d.h by omega]; exact i1
  · rw [isSg_shift hc, show d.h - (b : Int) + 1 + b = d.h + 1 by omega]; exact i2
  · rw [isSg_shift hm0, show -(a : Int) + a = 0 by omega]; exact i3
  · rw [isSg_shift hm0, show -(a : Int) + 1 + a = 1 by omega]; exact i4
  · rw [bl_shift hc]; have := bl_le_of_lt D.c2; omega
  · rw [bl_shift hm0]
    have h1 : bl d.m ≤ 7 := bl_le_of_lt (by have := D.m2; omega)
    omega
omit D H in
theorem sq2 (x g : Nat) : (x * 2 ^ g) * (x * 2 ^ g) = x ^ 2 * 2 ^ (2 * g) := by
  rw [Nat.pow_two, show 2 * g = g + g by omega, Nat.pow_add]; ac_rfl
theorem sqrt_pre (hk : d.k = 2) {own : Nat} (h1 : d.LE own (e - (d.p - 1 : Nat))) (h2 : ¬ d.LE (own + 1) (e - (d.p - 1 : Nat))) {o1 o2 : Obj}
    (i1 : IsSg o1 0 (d.c : Int) d.h) (i2 : IsSg o2 0 (d.c : Int) (d.h + 2)) :
    ∃ (M g : Nat) (E1 E2 : Int), IsSg o1 0 M E1 ∧ IsSg o2 0 M E2 ∧ 0 < M ∧ bl M ≤ 100 ∧ E1 = 2 * (e - (d.p - 1 : Nat) - g) ∧ E2 = 2 * (e - (d.p - 1 : Nat) + 1 - g) ∧
      (own * 2 ^ g) * (own * 2 ^ g) ≤ M ∧ M < ((own + 1) * 2 ^ g) * ((own + 1) * 2 ^ g) ∧ (M = (own * 2 ^ g) * (own * 2 ^ g) ↔ d.EQ own (e - (d.p - 1 : Nat))) := by
  have hb := At.dn_le D H (d.p - 1) (by omega)
  have hc : 0 < d.c := D.c1
  have hm : d.m = 1 := D.ev (by rw [hk])
  have hz : (up d.k d.h (e - (d.p - 1 : Nat)) : Int) - dn d.k d.h (e - (d.p - 1 : Nat)) = 2 * (e - (d.p - 1 : Nat)) - d.h := by unfold up dn; rw [hk]; omega
  unfold Dat.LE Mine.LE at h1 h2
  have hE : d.EQ own (e - (d.p - 1 : Nat)) ↔ d.m * own ^ d.k * 2 ^ up d.k d.h (e - (d.p - 1 : Nat)) = d.c * 2 ^ dn d.k d.h (e - (d.p - 1 : Nat)) := Iff.rfl
  rw [hE]
  generalize hgu : up d.k d.h (e - (d.p - 1 : Nat)) = a at *
  generalize hgd : dn d.k d.h (e - (d.p - 1 : Nat)) = b at *
  rw [hk, hm, Nat.one_mul] at *
  obtain ⟨g, q, hg, hq⟩ : ∃ g q, 2 * g = a + q ∧ q ≤ 1 := ⟨(a + 1) / 2, (a + 1) / 2 * 2 - a, by omega, by omega⟩
  have pq := pos2 q
  have f : ∀ x : Nat, (x * 2 ^ g) * (x * 2 ^ g) = x ^ 2 * 2 ^ a * 2 ^ q := fun x => by rw [sq2, hg, Nat.pow_add, Nat.mul_assoc]
  have fM : d.c * 2 ^ (b + q) = d.c * 2 ^ b * 2 ^ q := by rw [Nat.pow_add, Nat.mul_assoc]
  refine ⟨d.c * 2 ^ (b + q), g, d.h - (b + q : Nat), d.h + 2 - (b + q : Nat), ?_, ?_, Nat.mul_pos hc (pos2 _), ?_, by omega, by omega, ?_, ?_, ?_⟩
  · rw [isSg_shift hc, show d.h - ((b + q : Nat) : Int) + (b + q : Nat) = d.h by omega]; exact i1
  · rw [isSg_shift hc, show d.h + 2 - ((b + q : Nat) : Int) + (b + q : Nat) = d.h + 2 by omega]; exact i2
  · rw [bl_shift hc]; have := bl_le_of_lt D.c2; omega
  · rw [f, fM]; exact Nat.mul_le_mul_right _ h1
  · rw [f, fM]; exact Nat.mul_lt_mul_of_pos_right (by omega) pq
  · rw [f, fM]
    constructor
    · intro h; exact (Nat.eq_of_mul_eq_mul_right pq h).symm
    · intro h; rw [h]
/-- what the fourth root asks, of the inner root and of the outer -/
theorem quart_pre (hk : d.k = 4) {own : Nat} (h1 : d.LE own (e - (d.p - 1 : Nat))) (h2 : ¬ d.LE (own + 1) (e - (d.p - 1 : Nat))) {o1 o2 : Obj}
    (i1 : IsSg o1 0 (d.c : Int) d.h) (i2 : IsSg o2 0 (d.c : Int) (d.h + 4)) :
    ∃ (M g Y dl : Nat) (E1 E2 : Int), IsSg o1 0 M E1 ∧ IsSg o2 0 M E2 ∧ 0 < M ∧ bl M ≤ 100 ∧ dl ≤ 1 ∧ E1 = 2 * (2 * (e - (d.p - 1 : Nat)) - 1 + dl - g) ∧ E2 = 2 * (2 * (e - (d.p - 1 : Nat)) - 1 + dl + 2 - g) ∧
      2 ^ (2 * d.p - 1) ≤ Y ∧ Y < 2 ^ (2 * d.p) ∧ (Y * 2 ^ g) * (Y * 2 ^ g) ≤ M ∧ M < ((Y + 1) * 2 ^ g) * ((Y + 1) * 2 ^ g) ∧
      4 * (own * own) ≤ Y * 2 ^ (dl + 1) ∧ (Y + 1) * 2 ^ (dl + 1) ≤ 4 * ((own + 1) * (own + 1)) ∧ (M = (Y * 2 ^ g) * (Y * 2 ^ g) ∧ Y * 2 ^ (dl + 1) = 4 * (own * own) ↔ d.EQ own (e - (d.p - 1 : Nat))) := by
  have hb := At.dn_le D H (d.p - 1) (by omega)
  have hr := own_range D H h1 h2
  have hc : 0 < d.c := D.c1
  have hp1 := D.p1
  have hm : d.m = 1 := D.ev (by rw [hk])
  have hz : (up d.k d.h (e - (d.p - 1 : Nat)) : Int) - dn d.k d.h (e - (d.p - 1 : Nat)) = 4 * (e - (d.p - 1 : Nat)) - d.h := by unfold up dn; rw [hk]; omega
  unfold Dat.LE Mine.LE at h1 h2
  have hE : d.EQ own (e - (d.p - 1 : Nat)) ↔ d.m * own ^ d.k * 2 ^ up d.k d.h (e - (d.p - 1 : Nat)) = d.c * 2 ^ dn d.k d.h (e - (d.p - 1 : Nat)) := Iff.rfl
  rw [hE]
  generalize hgu : up d.k d.h (e - (d.p - 1 : Nat)) = a at *
  generalize hgd : dn d.k d.h (e - (d.p - 1 : Nat)) = b at *
  rw [hk, hm, Nat.one_mul] at *
  have f4 : ∀ x : Nat, x ^ 4 = (x * x) * (x * x) := fun x => by rw [show (4 : Nat) = 2 + 2 from rfl, Nat.pow_add, Nat.pow_two]
  rw [f4] at h1 h2 ⊢
  generalize hs : own * own = s at *
  generalize hs' : (own + 1) * (own + 1) = s' at *
  have hA := pos2 a
  -- V, the floor of twice the square root of the goal, in the square of the unit
  obtain ⟨V, hV1, hV2⟩ : ∃ V, V * V * 2 ^ a ≤ 4 * (d.c * 2 ^ b) ∧ 4 * (d.c * 2 ^ b) < (V + 1) * (V + 1) * 2 ^ a := by
    obtain ⟨V, g1, g2⟩ := root_exists (4 * (d.c * 2 ^ b) / 2 ^ a)
    refine ⟨V, ?_, ?_⟩
    · exact Nat.le_trans (Nat.mul_le_mul_right _ g1) (Nat.div_mul_le_self _ _)
    · exact (Nat.div_lt_iff_lt_mul hA).mp g2
  have fsq : ∀ x : Nat, (2 * x) * (2 * x) * 2 ^ a = 4 * (x * x * 2 ^ a) := fun x => by
    have : (2 * x) * (2 * x) = 4 * (x * x) := by rw [show (4 : Nat) = 2 * 2 from rfl]; ac_rfl
    rw [this, Nat.mul_assoc]
  have hVs : 2 * s ≤ V := by
    have h3 : (2 * s) * (2 * s) * 2 ^ a ≤ 4 * (d.c * 2 ^ b) := by rw [fsq]; omega
    have h4 := Nat.lt_of_mul_lt_mul_right (Nat.lt_of_le_of_lt h3 hV2)
    have := sq_lt h4
    omega
  have hVs' : V < 2 * s' := by
    have h3 : 4 * (d.c * 2 ^ b) < (2 * s') * (2 * s') * 2 ^ a := by rw [fsq]; omega
    have h4 := Nat.lt_of_mul_lt_mul_right (Nat.lt_of_le_of_lt hV1 h3)
    exact sq_lt h4
  have hEV : s * s * 2 ^ a = d.c * 2 ^ b ↔ V = 2 * s ∧ V * V * 2 ^ a = 4 * (d.c * 2 ^ b) := by
    constructor
    · intro h3
      have h4 : V * V * 2 ^ a ≤ (2 * s) * (2 * s) * 2 ^ a := by rw [fsq, h3]; exact hV1
      have h5 := sq_le (Nat.le_of_mul_le_mul_right h4 hA)
      have h6 : V = 2 * s := by omega
      refine ⟨h6, ?_⟩
      rw [h6, fsq, h3]
    · rintro ⟨h3, h4⟩
      rw [h3, fsq] at h4
      omega
  have hsl : 2 ^ (2 * d.p - 1) ≤ 2 * s := by
    rw [← hs, show 2 * d.p - 1 = (d.p - 1) + (d.p - 1) + 1 by omega, Nat.pow_succ, Nat.pow_add]
    have := Nat.mul_le_mul hr.1 hr.1
    omega
  have hsh : s' ≤ 2 ^ (2 * d.p) := by
    rw [← hs', show 2 * d.p = d.p + d.p by omega, Nat.pow_add]
    exact Nat.mul_le_mul (by omega) (by omega)
  obtain ⟨g, q, hg, hq⟩ : ∃ g q, 2 * g = a + q ∧ q ≤ 1 := ⟨(a + 1) / 2, (a + 1) / 2 * 2 - a, by omega, by omega⟩
  have pq := pos2 q
  have f : ∀ x : Nat, (x * 2 ^ g) * (x * 2 ^ g) = x * x * 2 ^ a * 2 ^ q := fun x => by rw [sq2, hg, Nat.pow_add, Nat.mul_assoc, Nat.pow_two]
  by_cases hbig : V < 2 ^ (2 * d.p)
  · -- the grid of the halves
    have fM : d.c * 2 ^ (b + q + 2) = 4 * (d.c * 2 ^ b) * 2 ^ q := by rw [Nat.pow_add, Nat.pow_add]; rw [show (2 : Nat) ^ 2 = 4 from rfl]; ac_rfl
    refine ⟨d.c * 2 ^ (b + q + 2), g, V, 0, d.h - (b + q + 2 : Nat), d.h + 4 - (b + q + 2 : Nat), ?_, ?_, Nat.mul_pos hc (pos2 _), ?_, by omega, by omega, by omega, by omega, hbig, ?_, ?_, by omega, by omega, ?_⟩
    · rw [isSg_shift hc, show d.h - ((b + q + 2 : Nat) : Int) + (b + q + 2 : Nat) = d.h by omega]; exact i1
    · rw [isSg_shift hc, show d.h + 4 - ((b + q + 2 : Nat) : Int) + (b + q + 2 : Nat) = d.h + 4 by omega]; exact i2
    · rw [bl_shift hc]; have := bl_le_of_lt D.c2; omega
    · rw [f, fM]; exact Nat.mul_le_mul_right _ hV1
    · rw [f, fM]; exact Nat.mul_lt_mul_of_pos_right hV2 pq
    · rw [f, fM, hEV]
      constructor
      · rintro ⟨h3, h4⟩
        exact ⟨by omega, (Nat.eq_of_mul_eq_mul_right pq h3).symm⟩
      · rintro ⟨h3, h4⟩
        exact ⟨by rw [h4], by omega⟩
  · have fM : d.c * 2 ^ (b + q) = d.c * 2 ^ b * 2 ^ q := by rw [Nat.pow_add, Nat.mul_assoc]
    obtain ⟨W, r, hW, hr2⟩ : ∃ W r, V = 2 * W + r ∧ r ≤ 1 := ⟨V / 2, V % 2, by omega, by omega⟩
    have w1 : W * W * 2 ^ a ≤ d.c * 2 ^ b := by
      have h3 : (2 * W) * (2 * W) * 2 ^ a ≤ V * V * 2 ^ a := Nat.mul_le_mul_right _ (Nat.mul_le_mul (by omega) (by omega))
      rw [fsq] at h3; omega
    have w2 : d.c * 2 ^ b < (W + 1) * (W + 1) * 2 ^ a := by
      have h3 : (V + 1) * (V + 1) * 2 ^ a ≤ (2 * (W + 1)) * (2 * (W + 1)) * 2 ^ a := Nat.mul_le_mul_right _ (Nat.mul_le_mul (by omega) (by omega))
      rw [fsq] at h3; omega
    have e2p : 2 ^ (2 * d.p) = 2 ^ (2 * d.p - 1) * 2 := by rw [← Nat.pow_succ]; congr 1; omega
    refine ⟨d.c * 2 ^ (b + q), g, W, 1, d.h - (b + q : Nat), d.h + 4 - (b + q : Nat), ?_, ?_, Nat.mul_pos hc (pos2 _), ?_, by omega, by omega, by omega, by omega, by omega, ?_, ?_, by omega, by omega, ?_⟩
    · rw [isSg_shift hc, show d.h - ((b + q : Nat) : Int) + (b + q : Nat) = d.h by omega]; exact i1
    · rw [isSg_shift hc, show d.h + 4 - ((b + q : Nat) : Int) + (b + q : Nat) = d.h + 4 by omega]; exact i2
    · rw [bl_shift hc]; have := bl_le_of_lt D.c2; omega
    · rw [f, fM]; exact Nat.mul_le_mul_right _ w1
    · rw [f, fM]; exact Nat.mul_lt_mul_of_pos_right w2 pq
    · rw [f, fM]
      constructor
      · rintro ⟨h3, h4⟩
        have h5 := Nat.eq_of_mul_eq_mul_right pq h3
        have h6 : W = s := by omega
        rw [← h6]; exact h5.symm
      · intro h3
        have h7 := hEV.mp h3
        have h6 : W = s := by omega
        rw [h6, h3]; exact ⟨rfl, by omega⟩
end
theorem quart_out {p own Y dl : Nat} {v : Int} {ex eq : Prop} [Decidable ex] [Decidable eq] {o1 o2 : Obj} (hp : 1 ≤ p) (hY0 : 0 < Y) (hr1 : 2 ^ (p - 1) ≤ own) (hr2 : own < 2 ^ p)
    (h1 : 4 * (own * own) ≤ Y * 2 ^ (dl + 1)) (h2 : (Y + 1) * 2 ^ (dl + 1) ≤ 4 * ((own + 1) * (own + 1))) (hE : ex ∧ Y * 2 ^ (dl + 1) = 4 * (own * own) ↔ eq)
    (i1 : IsSg o1 0 (Y : Int) (2 * v - 1 + dl)) (i2 : IsSg o2 0 (ansK 1 Y ex) (2 * v - 1 + dl + 2)) :
    ∃ (M1 M2 Y2 g2 : Nat) (E1 E2 G2 : Int), IsSg o1 0 M1 E1 ∧ IsSg o2 0 M2 E2 ∧ 0 < M1 ∧ 0 < M2 ∧ M1 ≤ Y * 2 ^ (dl + 1) ∧ M2 ≤ (Y + 1) * 2 ^ (dl + 1) ∧ E1 = 2 * (v - (1 : Nat)) ∧ E2 = 2 * (G2 - g2) ∧
      (own * 2 ^ 1) * (own * 2 ^ 1) ≤ M1 ∧ M1 < ((own + 1) * 2 ^ 1) * ((own + 1) * 2 ^ 1) ∧ 2 ^ (p - 1) ≤ Y2 ∧ Y2 < 2 ^ p ∧ (Y2 * 2 ^ g2) * (Y2 * 2 ^ g2) ≤ M2 ∧ M2 < ((Y2 + 1) * 2 ^ g2) * ((Y2 + 1) * 2 ^ g2) ∧
      ∀ o, IsSg o 0 (ansK 1 Y2 (M2 = (Y2 * 2 ^ g2) * (Y2 * 2 ^ g2))) G2 → IsSg o 0 (ansK 1 own eq) (v + 1) := by
  have f : ∀ x : Nat, (x * 2 ^ 1) * (x * 2 ^ 1) = 4 * (x * x) := fun x => by rw [Nat.pow_one, show (4 : Nat) = 2 * 2 from rfl]; ac_rfl
  have hA := ansK_pos (k := 1) (p := ex) hY0
  have hD := pos2 (dl + 1)
  have hlt : Y * 2 ^ (dl + 1) < (Y + 1) * 2 ^ (dl + 1) := by rw [Nat.add_mul, Nat.one_mul]; omega
  have hM1 : 0 < Y * 2 ^ (dl + 1) := Nat.mul_pos hY0 hD
  have hM2 : 0 < ansK 1 Y ex * 2 ^ (dl + 1) := Nat.mul_pos hA hD
  have hown := pos2 (p - 1)
  have hoo : (own + 1) * (own + 1) = own * own + 2 * own + 1 := by rw [Nat.add_mul, Nat.mul_add]; omega
  have hY2 : (ex → ansK 1 Y ex = Y) ∧ (¬ ex → ansK 1 Y ex = Y + 1) := by
    unfold ansK
    exact ⟨fun h => by rw [if_pos h]; rfl, fun h => by rw [if_neg h]; rfl⟩
  have hle : ansK 1 Y ex * 2 ^ (dl + 1) ≤ (Y + 1) * 2 ^ (dl + 1) := by
    by_cases hx : ex
    · rw [hY2.1 hx]; omega
    · rw [hY2.2 hx]; omega
  have hge : Y * 2 ^ (dl + 1) ≤ ansK 1 Y ex * 2 ^ (dl + 1) := by
    by_cases hx : ex
    · rw [hY2.1 hx]; omega
    · rw [hY2.2 hx]; omega
  have j1 : IsSg o1 0 ((Y * 2 ^ (dl + 1) : Nat) : Int) (2 * (v - (1 : Nat))) := by
    rw [isSg_shift hY0, show 2 * (v - ((1 : Nat) : Int)) + ((dl + 1 : Nat) : Int) = 2 * v - 1 + dl by omega]; exact i1
  have j2 : IsSg o2 0 ((ansK 1 Y ex * 2 ^ (dl + 1) : Nat) : Int) (2 * v) := by
    rw [isSg_shift hA, show 2 * v + ((dl + 1 : Nat) : Int) = 2 * v - 1 + dl + 2 by omega]; exact i2
  have hEx : ansK 1 Y ex * 2 ^ (dl + 1) = 4 * (own * own) ↔ eq := by
    rw [← hE]
    by_cases hx : ex
    · rw [hY2.1 hx]; exact ⟨fun h => ⟨hx, h⟩, fun h => h.2⟩
    · rw [hY2.2 hx]; exact ⟨fun h => by omega, fun h => absurd h.1 hx⟩
  have hT : (eq → ansK 1 own eq = own) ∧ (¬ eq → ansK 1 own eq = own + 1) := by
    unfold ansK
    exact ⟨fun h => by rw [if_pos h]; rfl, fun h => by rw [if_neg h]; rfl⟩
  generalize hM : ansK 1 Y ex * 2 ^ (dl + 1) = M2 at *
  by_cases hc : M2 < 4 * ((own + 1) * (own + 1))
  · refine ⟨_, M2, own, 1, _, _, v + 1, j1, j2, hM1, hM2, Nat.le_refl _, hle, rfl, by omega, by rw [f]; exact h1, by rw [f]; omega, hr1, hr2, by rw [f]; omega, by rw [f]; exact hc, ?_⟩
    intro o h
    have e : ansK 1 own (M2 = own * 2 ^ 1 * (own * 2 ^ 1)) = ansK 1 own eq := ansK_congr (by rw [f]; exact hEx)
    rw [e] at h; exact h
  · have hc' : M2 = 4 * ((own + 1) * (own + 1)) := by omega
    have hne : ¬ eq := fun h => by have := hEx.mpr h; omega
    by_cases hb : own + 1 < 2 ^ p
    · have hoo2 : (own + 1 + 1) * (own + 1 + 1) = (own + 1) * (own + 1) + 2 * (own + 1) + 1 := by rw [Nat.add_mul (own + 1) 1, Nat.mul_add]; omega
      refine ⟨_, M2, own + 1, 1, _, _, v + 1, j1, j2, hM1, hM2, Nat.le_refl _, hle, rfl, by omega, by rw [f]; exact h1, by rw [f]; omega, by omega, hb, by rw [f]; omega, by rw [f]; omega, ?_⟩
      intro o h
      rw [hT.2 hne]
      have e : ansK 1 (own + 1) (M2 = (own + 1) * 2 ^ 1 * ((own + 1) * 2 ^ 1)) = own + 1 := by unfold ansK; rw [f, if_pos hc']; rfl
      rw [e] at h; exact h
    · have hown2 : own + 1 = 2 ^ p := by omega
      have e2 : own + 1 = 2 ^ (p - 1) * 2 := by rw [hown2, ← Nat.pow_succ]; congr 1; omega
      have f2 : ∀ x : Nat, (x * 2 ^ 2) * (x * 2 ^ 2) = 4 * ((x * 2) * (x * 2)) := fun x => by
        rw [show (2 : Nat) ^ 2 = 4 from rfl]
        have : ∀ y : Nat, y * 4 = (y * 2) * 2 := fun y => by omega
        rw [this x]
        generalize x * 2 = z
        rw [show (4 : Nat) = 2 * 2 from rfl]; ac_rfl
      have hoo3 : (2 ^ (p - 1) + 1) * 2 * ((2 ^ (p - 1) + 1) * 2) = (own + 1) * (own + 1) + 4 * (own + 1) + 4 := by
        rw [show (2 ^ (p - 1) + 1) * 2 = (own + 1) + 2 by omega, Nat.add_mul (own + 1) 2, Nat.mul_add]; omega
      refine ⟨_, M2, 2 ^ (p - 1), 2, _, _, v + 2, j1, j2, hM1, hM2, Nat.le_refl _, hle, rfl, by omega, by rw [f]; exact h1, by rw [f]; omega, Nat.le_refl _, Nat.pow_lt_pow_right (by omega) (by omega), by rw [f2, ← e2]; omega, by rw [f2, hoo3]; omega, ?_⟩
      intro o h
      rw [hT.2 hne]
      have e : ansK 1 (2 ^ (p - 1)) (M2 = 2 ^ (p - 1) * 2 ^ 2 * (2 ^ (p - 1) * 2 ^ 2)) = 2 ^ (p - 1) := by unfold ansK; rw [f2, ← e2, if_pos hc']; rfl
      rw [e] at h
      have := @isSg_shift o 0 (v + 1) (2 ^ (p - 1)) (pos2 _) 1
      rw [e2]
      rw [Nat.pow_one] at this
      exact this.mpr (by rw [show v + 1 + ((1 : Nat) : Int) = v + 2 by omega]; exact h)
/-! L0 -/
def lawBody : List Stmt := match PySem.Challenge.pw_aa5011_01.main.body.getLast? with
  | some (.FunctionDef _ _ b _ _ _ _ _ _ _) => b
  | _ => []
def lawScopeO : Option Scope := match PySem.Challenge.pw_aa5011_01.main.body.getLast? with
  | some (.FunctionDef _ _ _ _ _ _ sc _ _ _) => some sc
  | _ => none
def lawScopex : { s : Scope // some s = lawScopeO } := by
  refine ⟨?s, ?h⟩
  case h => (conv => rhs; whnf)
@[reducible] def lawScope : Scope := lawScopex.1
def S0x : { s : Stmt // some s = lawBody[0]? } := by
  refine ⟨?s, ?h⟩
  case h => (conv => rhs; whnf)
@[reducible] def S0 : Stmt := S0x.1
def S1x : { s : Stmt // some s = lawBody[1]? } := by
  refine ⟨?s, ?h⟩
  case h => (conv => rhs; whnf)
@[reducible] def S1 : Stmt := S1x.1
def S2x : { s : Stmt // some s = lawBody[2]? } := by
  refine ⟨?s, ?h⟩
  case h => (conv => rhs; whnf)
@[reducible] def S2 : Stmt := S2x.1
def S3x : { s : Stmt // some s = lawBody[3]? } := by
  refine ⟨?s, ?h⟩
  case h => (conv => rhs; whnf)
@[reducible] def S3 : Stmt := S3x.1
def S4x : { s : Stmt // some s = lawBody[4]? } := by
  refine ⟨?s, ?h⟩
  case h => (conv => rhs; whnf)
@[reducible] def S4 : Stmt := S4x.1
def S5x : { s : Stmt // some s = lawBody[5]? } := by
  refine ⟨?s, ?h⟩
  case h => (conv => rhs; whnf)
@[reducible] def S5 : Stmt := S5x.1
def S6x : { s : Stmt // some s = lawBody[6]? } := by
  refine ⟨?s, ?h⟩
  case h => (conv => rhs; whnf)
@[reducible] def S6 : Stmt := S6x.1
def S7x : { s : Stmt // some s = lawBody[7]? } := by
  refine ⟨?s, ?h⟩
  case h => (conv => rhs; whnf)
@[reducible] def S7 : Stmt := S7x.1
def S8x : { s : Stmt // some s = lawBody[8]? } := by
  refine ⟨?s, ?h⟩
  case h => (conv => rhs; whnf)
@[reducible] def S8 : Stmt := S8x.1
def S9x : { s : Stmt // some s = lawBody[9]? } := by
  refine ⟨?s, ?h⟩
  case h => (conv => rhs; whnf)
@[reducible] def S9 : Stmt := S9x.1
def S10x : { s : Stmt // some s = lawBody[10]? } := by
  refine ⟨?s, ?h⟩
  case h => (conv => rhs; whnf)
@[reducible] def S10 : Stmt := S10x.1
def S11x : { s : Stmt // some s = lawBody[11]? } := by
  refine ⟨?s, ?h⟩
  case h => (conv => rhs; whnf)
@[reducible] def S11 : Stmt := S11x.1
def S12x : { s : Stmt // some s = lawBody[12]? } := by
  refine ⟨?s, ?h⟩
  case h => (conv => rhs; whnf)
@[reducible] def S12 : Stmt := S12x.1
def S13x : { s : Stmt // some s = lawBody[13]? } := by
  refine ⟨?s, ?h⟩
  case h => (conv => rhs; whnf)
@[reducible] def S13 : Stmt := S13x.1
def S14x : { s : Stmt // some s = lawBody[14]? } := by
  refine ⟨?s, ?h⟩
  case h => (conv => rhs; whnf)
@[reducible] def S14 : Stmt := S14x.1
def S15x : { s : Stmt // some s = lawBody[15]? } := by
  refine ⟨?s, ?h⟩
  case h => (conv => rhs; whnf)
@[reducible] def S15 : Stmt := S15x.1
def S16x : { s : Stmt // some s = lawBody[16]? } := by
  refine ⟨?s, ?h⟩
  case h => (conv => rhs; whnf)
@[reducible] def S16 : Stmt := S16x.1
def S17x : { s : Stmt // some s = lawBody[17]? } := by
  refine ⟨?s, ?h⟩
  case h => (conv => rhs; whnf)
@[reducible] def S17 : Stmt := S17x.1
def S18x : { s : Stmt // some s = lawBody[18]? } := by
  refine ⟨?s, ?h⟩
  case h => (conv => rhs; whnf)
@[reducible] def S18 : Stmt := S18x.1
def S19x : { s : Stmt // some s = lawBody[19]? } := by
  refine ⟨?s, ?h⟩
  case h => (conv => rhs; whnf)
@[reducible] def S19 : Stmt := S19x.1
def S20x : { s : Stmt // some s = lawBody[20]? } := by
  refine ⟨?s, ?h⟩
  case h => (conv => rhs; whnf)
@[reducible] def S20 : Stmt := S20x.1
def S21x : { s : Stmt // some s = lawBody[21]? } := by
  refine ⟨?s, ?h⟩
  case h => (conv => rhs; whnf)
@[reducible] def S21 : Stmt := S21x.1
def S22x : { s : Stmt // some s = lawBody[22]? } := by
  refine ⟨?s, ?h⟩
  case h => (conv => rhs; whnf)
@[reducible] def S22 : Stmt := S22x.1
def S23x : { s : Stmt // some s = lawBody[23]? } := by
  refine ⟨?s, ?h⟩
  case h => (conv => rhs; whnf)
@[reducible] def S23 : Stmt := S23x.1
def S24x : { s : Stmt // some s = lawBody[24]? } := by
  refine ⟨?s, ?h⟩
  case h => (conv => rhs; whnf)
@[reducible] def S24 : Stmt := S24x.1
def S25x : { s : Stmt // some s = lawBody[25]? } := by
  refine ⟨?s, ?h⟩
  case h => (conv => rhs; whnf)
@[reducible] def S25 : Stmt := S25x.1
def S26x : { s : Stmt // some s = lawBody[26]? } := by
  refine ⟨?s, ?h⟩
  case h => (conv => rhs; whnf)
@[reducible] def S26 : Stmt := S26x.1
def S27x : { s : Stmt // some s = lawBody[27]? } := by
  refine ⟨?s, ?h⟩
  case h => (conv => rhs; whnf)
@[reducible] def S27 : Stmt := S27x.1
def S28x : { s : Stmt // some s = lawBody[28]? } := by
  refine ⟨?s, ?h⟩
  case h => (conv => rhs; whnf)
@[reducible] def S28 : Stmt := S28x.1
def S29x : { s : Stmt // some s = lawBody[29]? } := by
  refine ⟨?s, ?h⟩
  case h => (conv => rhs; whnf)
@[reducible] def S29 : Stmt := S29x.1
def S30x : { s : Stmt // some s = lawBody[30]? } := by
  refine ⟨?s, ?h⟩
  case h => (conv => rhs; whnf)
@[reducible] def S30 : Stmt := S30x.1
theorem lawBody_eq : lawBody = [S0, S1, S2, S3, S4, S5, S6, S7, S8, S9, S10, S11, S12, S13, S14, S15, S16, S17, S18, S19, S20, S21, S22, S23, S24, S25, S26, S27, S28, S29, S30] := rfl
/-- a frame's names -/
def bnd (l : List (Str × Value)) : Mp := fun y => l.lookup y
theorem bnd_cons {x : Str} {v : Value} {l : List (Str × Value)} : (fun y => if y = x then some v else bnd l y) = bnd ((x, v) :: l) := by
  funext y
  unfold bnd
  rw [List.lookup_cons]
  by_cases h : y = x
  · subst h; simp
  · rw [if_neg h]
    have : (y == x) = false := by simpa using h
    rw [this]
theorem bnd_ext {l l' : List (Str × Value)} {ks : List Str} (h1 : ∀ p ∈ l, p.1 ∈ ks) (h2 : ∀ p ∈ l', p.1 ∈ ks) (h : ∀ x ∈ ks, l.lookup x = l'.lookup x) : bnd l = bnd l' := by
  have key : ∀ (l : List (Str × Value)) x, (∀ p ∈ l, p.1 ∈ ks) → x ∉ ks → l.lookup x = none := by
    intro l
    induction l with
    | nil => intro x _ _; rfl
    | cons p r ih =>
      intro x hp hx
      rw [List.lookup_cons]
      have hne : (x == p.1) = false := by
        have : x ≠ p.1 := fun e => hx (e ▸ hp p (List.mem_cons_self ..))
        simpa using this
      rw [hne]
      exact ih x (fun q hq => hp q (List.mem_cons_of_mem _ hq)) hx
  funext x
  unfold bnd
  by_cases hx : x ∈ ks
  · exact h x hx
  · rw [key l x h1 hx, key l' x h2 hx]
/-- the names put in an order -/
def nrm (ks : List Str) (l : List (Str × Value)) : List (Str × Value) := ks.filterMap fun k => (l.lookup k).map fun v => (k, v)
theorem nrm_lookup (l : List (Str × Value)) (x : Str) : ∀ ks : List Str, (nrm ks l).lookup x = if x ∈ ks then l.lookup x else none
  | [] => rfl
  | k :: ks => by
    have ih := nrm_lookup l x ks
    unfold nrm at ih ⊢
    rw [List.filterMap_cons]
    by_cases hx : x = k
    · subst hx
      rw [if_pos (List.mem_cons_self ..)]
      cases hl : l.lookup x with
      | none =>
        simp only [Option.map_none]
        rw [ih, hl]; split <;> rfl
      | some v =>
        simp only [Option.map_some]
        rw [List.lookup_cons]; simp
    · have e : (x ∈ k :: ks) ↔ x ∈ ks := by simp [hx]
      have hb : (x == k) = false := by simpa using hx
      cases hl : l.lookup k with
      | none =>
        simp only [Option.map_none]
        rw [ih]; simp only [e]
      | some v =>
        simp only [Option.map_some]
        rw [List.lookup_cons, hb]
        simp only [e]; exact ih
theorem lookup_none_of {l : List (Str × Value)} {x : Str} {ks : List Str} (hp : ∀ p ∈ l, p.1 ∈ ks) (hx : x ∉ ks) : l.lookup x = none := by
  induction l with
  | nil => rfl
  | cons p r ih =>
    rw [List.lookup_cons]
    have hne : (x == p.1) = false := by
      have : x ≠ p.1 := fun e => hx (e ▸ hp p (List.mem_cons_self ..))
      simpa using this
    rw [hne]
    exact ih (fun q hq => hp q (List.mem_cons_of_mem _ hq))
theorem bnd_norm {l : List (Str × Value)} (ks : List Str) (h : ∀ p ∈ l, p.1 ∈ ks) : bnd l = bnd (nrm ks l) := by
  funext x
  unfold bnd
  rw [nrm_lookup]
  by_cases hx : x ∈ ks
  · rw [if_pos hx]
  · rw [if_neg hx, lookup_none_of h hx]
theorem bnd_if {x y : Str} {v : Value} {l : List (Str × Value)} : (if y = x then some v else bnd l y) = bnd ((x, v) :: l) y := congrFun bnd_cons y
theorem frRe {h₀ h : Heap} {L : Addr} {m m' : Mp} (F : Fr h₀ L h m) (e : m = m') : Fr h₀ L h m' := e ▸ F
abbrev St (s : Shared) (h : Heap) (tk : Nat) : Shared := { s with heap := h, toks := tk }
section
variable {M : Model} {A : Around} {E : Value → Shared → Prop} {s : Shared} {env : Env} {Q : Flow → Shared → Prop}
theorem execs_app (Mid : Shared → Prop) : ∀ {l1 l2 : List Stmt} {s : Shared}, wpAny M A (execs l1 env) (fun f s' => f = .next ∧ Mid s') E s → (∀ s', Mid s' → wpAny M A (execs l2 env) Q E s') → wpAny M A (execs (l1 ++ l2) env) Q E s := by
  intro l1 l2 s h1 h2
  have e : ∀ l : List Stmt, (execs (l ++ l2) env : Sem Flow) = (do match ← execs l env with | .next => execs l2 env | f => pure f) := by
    intro l
    induction l with
    | nil => 
      show execs l2 env = _
      have : (execs [] env : Sem Flow) = pure .next := by first | rfl | simp [execs]
      rw [this]; rfl
    | cons st r ih =>
      show execs (st :: (r ++ l2)) env = _
      rw [execs_cons, execs_cons, bind_assoc]
      congr 1
      funext f
      cases f <;> first | exact ih | rfl
  rw [e]
  refine wpAny_bind (wpAny_mono h1 (fun f s' h => ?_) fun _ _ x => x)
  obtain ⟨rfl, hm⟩ := h
  exact h2 s' hm
end
/-! comparing two canonical numbers -/
section
variable {prog : Program} {w : World} {A : Around} {E : Value → Shared → Prop} {s : Shared} {Q : Value → Shared → Prop} {D1 D2 : Addr} {o1 o2 : Obj}
theorem sg_inj {X Y : Nat} {U : Int} (hX : 0 < X) (hY : 0 < Y) : (odI (X : Int) = odI (Y : Int) ∧ U + tzI (X : Int) = U + tzI (Y : Int)) ↔ X = Y := by
  constructor
  · rintro ⟨h1, h2⟩
    rw [odI_def, odI_def, Int.toNat_natCast, Int.toNat_natCast] at h1
    rw [tzI_def, tzI_def, Int.toNat_natCast, Int.toNat_natCast] at h2
    rw [← od_mul hX, ← od_mul hY, show od X = od Y by omega, show tz X = tz Y by omega]
  · rintro rfl; exact ⟨rfl, rfl⟩
/-- two numbers of one exponent: != -/
theorem r_ne {X Y : Nat} {U : Int} (h1 : s.heap.get? D1 = some o1) (h2 : s.heap.get? D2 = some o2) (i1 : IsSg o1 0 X U) (i2 : IsSg o2 0 Y U) (hX : 0 < X) (hY : 0 < Y) (hu : A.units + 64 < cLine)
    (h : Q (.bool (!decide (X = Y))) s) : wpAny (model prog w) A (compareOp .NotEq (.ref D1) (.ref D2)) Q E s := by
  obtain ⟨c1, a1, a2, a3, a4, rfl⟩ := i1
  obtain ⟨c2, b1, b2, b3, b4, rfl⟩ := i2
  refine ne4 h1 h2 hu ?_
  have e : decide ((0 : Int) = 0 ∧ odI (X : Int) = odI (Y : Int) ∧ U + tzI (X : Int) = U + tzI (Y : Int) ∧ bI (odI (X : Int)) = bI (odI (Y : Int))) = decide (X = Y) := by
    refine decide_eq_decide.mpr ?_
    rw [← sg_inj (U := U) hX hY]
    exact ⟨fun h => ⟨h.2.1, h.2.2.1⟩, fun h => ⟨rfl, h.1, h.2, by rw [h.1]⟩⟩
  rw [e]; exact h
/-- the same number: != is False -/
theorem r_neF {X : Int} {U : Int} (h1 : s.heap.get? D1 = some o1) (h2 : s.heap.get? D2 = some o2) (i1 : IsSg o1 0 X U) (i2 : IsSg o2 0 X U) (hu : A.units + 64 < cLine)
    (h : Q (.bool false) s) : wpAny (model prog w) A (compareOp .NotEq (.ref D1) (.ref D2)) Q E s := by
  obtain ⟨c1, a1, a2, a3, a4, rfl⟩ := i1
  obtain ⟨c2, b1, b2, b3, b4, rfl⟩ := i2
  exact ne4F h1 h2 hu ⟨rfl, rfl, rfl, rfl⟩ h
theorem r_eqT {X : Int} {U : Int} (h1 : s.heap.get? D1 = some o1) (h2 : s.heap.get? D2 = some o2) (i1 : IsSg o1 0 X U) (i2 : IsSg o2 0 X U) (hu : A.units + 64 < cLine)
    (h : Q (.bool true) s) : wpAny (model prog w) A (compareOp .Eq (.ref D1) (.ref D2)) Q E s := by
  obtain ⟨c1, a1, a2, a3, a4, rfl⟩ := i1
  obtain ⟨c2, b1, b2, b3, b4, rfl⟩ := i2
  exact eq4 h1 h2 hu (by rw [decide_eq_true ⟨rfl, rfl, rfl, rfl⟩]; exact h)
/-- two pairs of the same numbers: != is False -/
theorem r_neP {P1 P2 Da Db Dc Dd c c' : Nat} {oa ob oc od : Obj} {X Y : Int} {U V : Int} (h1 : s.heap.get? P1 = some (tup2 c (.ref Da) (.ref Db))) (h2 : s.heap.get? P2 = some (tup2 c' (.ref Dc) (.ref Dd)))
    (ha : s.heap.get? Da = some oa) (hb : s.heap.get? Db = some ob) (hc : s.heap.get? Dc = some oc) (hd : s.heap.get? Dd = some od)
    (ia : IsSg oa 0 X U) (ib : IsSg ob 0 Y V) (ic : IsSg oc 0 X U) (id : IsSg od 0 Y V) (hu : A.units + 64 < cLine)
    (h : Q (.bool false) s) : wpAny (model prog w) A (compareOp .NotEq (.ref P1) (.ref P2)) Q E s := by
  obtain ⟨_, _, _, _, _, rfl⟩ := ia
  obtain ⟨_, _, _, _, _, rfl⟩ := ib
  obtain ⟨_, _, _, _, _, rfl⟩ := ic
  obtain ⟨_, _, _, _, _, rfl⟩ := id
  have r1 : Reads s.heap (.ref P1) (.tuple [d4 0 (odI X) (U + tzI X) (bI (odI X)), d4 0 (odI Y) (V + tzI Y) (bI (odI Y))]) [] :=
    Reads.tuple h1 rfl rfl (ReadsAll.cons (as := []) (reads4 ha) (ReadsAll.cons (as := []) (reads4 hb) ReadsAll.nil))
  have r2 : Reads s.heap (.ref P2) (.tuple [d4 0 (odI X) (U + tzI X) (bI (odI X)), d4 0 (odI Y) (V + tzI Y) (bI (odI Y))]) [] :=
    Reads.tuple h2 rfl rfl (ReadsAll.cons (as := []) (reads4 hc) (ReadsAll.cons (as := []) (reads4 hd) ReadsAll.nil))
  have sh : PySem.SeqAt.shaped (.tuple [d4 0 (odI X) (U + tzI X) (bI (odI X)), d4 0 (odI Y) (V + tzI Y) (bI (odI Y))]) = true := by
    simp [PySem.SeqAt.shaped, PyData.canLay0, PyData.canLayAll0, PyData.depth, PyData.depthAll]
  refine PyProof.Rows.ne_dataH r1 r2 sh sh hu ?_
  have e : PyData.eqv (.tuple [d4 0 (odI X) (U + tzI X) (bI (odI X)), d4 0 (odI Y) (V + tzI Y) (bI (odI Y))]) (.tuple [d4 0 (odI X) (U + tzI X) (bI (odI X)), d4 0 (odI Y) (V + tzI Y) (bI (odI Y))]) = true := by
    simp [PyData.eqv, PyData.eqvAll]
  rw [e]; exact h
end
local macro_rules | `(tactic| walk_at "eval Call") => `(tactic| k_dflt (refine Call_ ?_))
/-! L1 -/
local macro_rules | `(tactic| walk_at "call ref") => `(tactic| (k_here; (with_reducible show wpAny _ _ (call (Value.ref 205) _) _ _ _); k_dflt ((refine' t_draw ?k1 ?k2 ?k3 ?k4 ?k5 ?k6 ?k7 ?k8 ?q1 ?q2 ?q3 ?q4 ?q5 ?q6 ?_); (case k1 => k_asm); (case k2 => k_asm); (case k3 => k_asm); (case k4 => k_asm); (case k5 => k_asm); (case k6 => first | exact rfl | assumption); (case k7 => ktr_room); (case k8 => ktr_units); (case q1 => k_asm); (case q2 => k_asm); (case q3 => k_asm); (case q4 => decide); (case q5 => decide); (case q6 => decide +kernel); k_whole); intro r9 hr0 hr1 t9 h9 tk9 F9 N9; (try dsimp only); (try k_fold)))
theorem bI_small {x : Int} (h1 : -1073741824 < x) (h2 : x < 1073741824) : bI x ≤ 30 := by
  have : Builtin.Int.intBits x ≤ 30 := intBits_le (by omega)
  unfold bI; omega
theorem bI_pw {x k : Int} (h1 : 0 < x) (h2 : x ≤ 64) (h3 : 1 ≤ k) (h4 : k ≤ 4) : bI (pw x k) ≤ 28 ∧ 1 ≤ pw x k ∧ pw x k ≤ 16777216 ∧ (k ≤ 3 → pw x k ≤ 262144) := by
  obtain ⟨n, rfl⟩ := toN (Int.le_of_lt h1)
  obtain ⟨j, rfl⟩ := toN (show 0 ≤ k by omega)
  have e : pw (n : Int) (j : Int) = ((n ^ j : Nat) : Int) := by rw [pw_def, Int.toNat_natCast, Int.natCast_pow]
  have hn : n ≤ 64 := by omega
  have h5 : 1 ≤ n ^ j := Nat.pow_pos (by omega)
  have h6 : n ^ j ≤ 64 ^ j := Nat.pow_le_pow_left hn j
  have h7 : 64 ^ j ≤ 64 ^ 4 := Nat.pow_le_pow_right (by omega) (by omega)
  have h8 : j ≤ 3 → 64 ^ j ≤ 64 ^ 3 := fun h => Nat.pow_le_pow_right (by omega) h
  rw [e, bI_nat]
  have h9 : bl (n ^ j) ≤ 25 := bl_le_of_lt (by omega)
  refine ⟨by omega, by omega, by omega, fun h => ?_⟩
  have := h8 (by omega)
  omega
/-- behind the draws -/
def PA (s : Shared) (h₀ : Heap) (L l : Addr) (s' : Shared) : Prop := ∃ (p k m c h n : Int) (t1 t2 t3 t4 t5 t6 : Tok) (h' : Heap) (tk : Nat), s' = St s h' tk ∧
  Fr h₀ L h' (bnd [(Str.ofString "near", .int n t6), (Str.ofString "h", .int h t5), (Str.ofString "c", .int c t4), (Str.ofString "m", .int m t3), (Str.ofString "k", .int k t2), (Str.ofString "p", .int p t1), (Str.ofString "script", .ref l)]) ∧ News h₀ L h' [] ∧
  (5 ≤ p ∧ p ≤ 12 ∧ 1 ≤ k ∧ k ≤ 4 ∧ 1 ≤ m ∧ m ≤ 64 ∧ (k % 2 = 0 → m = 1) ∧ 1 ≤ c ∧ c ≤ 65536 ∧ -20 ≤ h ∧ h ≤ 20 ∧ 0 ≤ n ∧ n < 6)
/-- behind the goal's own numbers -/
def PB (s : Shared) (h₀ : Heap) (L l : Addr) (s' : Shared) : Prop := ∃ (d : Dat) (_ : d.Ok) (nv : Value) (t1 t2 t3 t4 t5 : Tok) (h' : Heap) (tk : Nat), s' = St s h' tk ∧
  Fr h₀ L h' (bnd [(Str.ofString "near", nv), (Str.ofString "h", .int d.h t5), (Str.ofString "c", .int d.c t4), (Str.ofString "m", .int d.m t3), (Str.ofString "k", .int d.k t2), (Str.ofString "p", .int d.p t1), (Str.ofString "script", .ref l)]) ∧ News h₀ L h' []
theorem pb_of {s : Shared} {h₀ : Heap} {L l : Addr} {p k m c h : Int} {nv : Value} {t1 t2 t3 t4 t5 : Tok} {h' : Heap} {tk : Nat} (F : Fr h₀ L h' (bnd [(Str.ofString "near", nv), (Str.ofString "h", .int h t5), (Str.ofString "c", .int c t4), (Str.ofString "m", .int m t3), (Str.ofString "k", .int k t2), (Str.ofString "p", .int p t1), (Str.ofString "script", .ref l)])) (N : News h₀ L h' [])
    (g : 5 ≤ p ∧ p ≤ 12 ∧ 1 ≤ k ∧ k ≤ 4 ∧ 1 ≤ m ∧ m ≤ 64 ∧ (k % 2 = 0 → m = 1) ∧ 1 ≤ c ∧ c < 33554432 ∧ -20 ≤ h ∧ h ≤ 20) : PB s h₀ L l (St s h' tk) := by
  obtain ⟨p, rfl⟩ := toN (show 0 ≤ p by omega)
  obtain ⟨k, rfl⟩ := toN (show 0 ≤ k by omega)
  obtain ⟨m, rfl⟩ := toN (show 0 ≤ m by omega)
  obtain ⟨c, rfl⟩ := toN (show 0 ≤ c by omega)
  exact ⟨⟨p, k, m, c, h⟩, ⟨show 5 ≤ p by omega, show p ≤ 12 by omega, show 1 ≤ k by omega, show k ≤ 4 by omega, show 1 ≤ m by omega, show m ≤ 64 by omega, show 1 ≤ c by omega, show c < 2 ^ 25 by omega, show -20 ≤ h by omega, show h ≤ 20 by omega,
    fun hk => by have hk' : k % 2 = 0 := hk; have := g.2.2.2.2.2.2.1 (by omega); show m = 1; omega⟩, nv, t1, t2, t3, t4, t5, h', tk, rfl, F, N⟩
/-- the goal's number lies in its bounds -/
theorem mw_ok {m k r : Int} (h1 : 1 ≤ k) (h2 : k ≤ 4) (h3 : 1 ≤ m) (h4 : m ≤ 64) (h5 : k % 2 = 0 → m = 1) (h6 : 0 ≤ r) (h7 : r < 64) : 1 ≤ m * pw (1 + r) k ∧ m * pw (1 + r) k ≤ 16777216 := by
  obtain ⟨_, g1, g2, g3⟩ := bI_pw (x := 1 + r) (k := k) (by omega) (by omega) h1 h2
  generalize pw (1 + r) k = x at *
  constructor
  · have := Int.mul_le_mul h3 g1 (by omega) (by omega)
    omega
  · by_cases hk : k % 2 = 0
    · rw [h5 hk, Int.one_mul]; exact g2
    · have := Int.mul_le_mul h4 (g3 (by omega)) (by omega) (by omega)
      omega
theorem kh_ok {k h : Int} (h1 : 1 ≤ k) (h2 : k ≤ 4) (h3 : -20 ≤ h) (h4 : h ≤ 20) : -20 ≤ k * (h / 4) ∧ k * (h / 4) ≤ 20 := by
  have : k = 1 ∨ k = 2 ∨ k = 3 ∨ k = 4 := by omega
  rcases this with rfl | rfl | rfl | rfl <;> omega
abbrev ksB : List Str := [Str.ofString "near", Str.ofString "h", Str.ofString "c", Str.ofString "m", Str.ofString "k", Str.ofString "p", Str.ofString "script"]
local macro_rules | `(tactic| walk_at "my nn") => `(tactic| (exact Int.le_trans (bI_small (by omega) (by omega)) (by omega)))
local macro_rules | `(tactic| walk_at "my nn") => `(tactic| (exact Int.le_trans (bI_pw (by omega) (by omega) (by omega) (by omega)).1 (by omega)))
local macro_rules | `(tactic| walk_at "my nn") => `(tactic| (first | assumption | decide | omega))
section
variable {w : World} {loose : List Str} {mean : ExcName → Option Value} {mg mb : Str → Option Value} {h₀ : Heap} {L fa l : Addr} {cd : Value} {s : Shared} {vs : List Value} {ns : List Int}
   (B : Below callerA h₀ [] h₀) (X : (Mine.hd.heap_39 w.params).In h₀) (T : Top Mine.hd.view_39 loose mean mg mb h₀) (hl : h₀.IsList l vs.toArray) (hi : IntsAre vs ns) (hlen : ns.length ≤ 63)
include B X T hl hi hlen
theorem segA {h : Heap} {tk : Nat} (F : Fr h₀ L h (bnd [(Str.ofString "script", .ref l)])) (N : News h₀ L h []) :
   wpAny (model PySem.Challenge.rw_aa5011_01.row.prog w) (callerA.deeper (envOf (Str.ofString "law") lawScope L fa cd)) (execs [S0, S1, S2, S3, S4, S5] (envOf (Str.ofString "law") lawScope L fa cd)) (fun f s' => f = .next ∧ PA s h₀ L l s') (fun _ _ => False) (St s h tk) := by
  revert X; k_fill; intro X
  delta S0 S1 S2 S3 S4 S5 lawScope S0x S1x S2x S3x S4x S5x lawScopex
  dsimp only
  k_fold
  walk_at "my steps"
  all_goals (
    rename Fr _ _ _ _ => F8
    simp only [bnd_if] at F8
    exact ⟨_, _, _, _, _, _, _, _, _, _, _, _, _, _, rfl, F8, by assumption, by omega⟩)
theorem segB {s1 : Shared} (h1 : PA s h₀ L l s1) :
   wpAny (model PySem.Challenge.rw_aa5011_01.row.prog w) (callerA.deeper (envOf (Str.ofString "law") lawScope L fa cd)) (execs [S6] (envOf (Str.ofString "law") lawScope L fa cd)) (fun f s' => f = .next ∧ PB s h₀ L l s') (fun _ _ => False) s1 := by
  revert X; k_fill; intro X
  obtain ⟨p, k, m, c, h, n, t1, t2, t3, t4, t5, t6, h', tk, rfl, F, N, g⟩ := h1
  delta S6 lawScope S6x lawScopex
  dsimp only
  k_fold
  have hn : n = 0 ∨ n = 1 ∨ n = 2 ∨ 3 ≤ n := by omega
  rcases hn with rfl | rfl | rfl | hn
  all_goals walk_at "my steps"
  all_goals (
    have hkh := @kh_ok k h (by omega) (by omega) (by omega) (by omega)
    have hmw := fun r a b => @mw_ok m k r (by omega) (by omega) (by omega) (by omega) g.2.2.2.2.2.2.1 a b
    rename Fr _ _ _ _ => F8
    (try simp only [bnd_if] at F8)
    replace F8 := frRe F8 (bnd_norm ksB (by simp))
    first
      | (have hmw' := hmw _ (by assumption) (by assumption); exact ⟨rfl, pb_of F8 News.nil (by omega)⟩)
      | (have hmw' := hmw _ (by assumption) (by assumption); exact pb_of F8 News.nil (by omega))
      | exact pb_of F8 News.nil (by omega))
end
/-! L2 -/
local macro_rules | `(tactic| walk_at "call ref") => `(tactic| (k_here; (with_reducible show wpAny _ _ (call (Value.ref 86) [_, _]) _ _ _); k_dflt ((refine' t_fme2 ?k1 ?k2 ?k3 ?k4 ?k5 ?k6 ?k7 ?k8 ?q1 ?_); (case k1 => k_asm); (case k2 => k_asm); (case k3 => k_asm); (case k4 => k_asm); (case k5 => k_asm); (case k6 => first | exact rfl | assumption); (case k7 => ktr_room); (case k8 => ktr_units); (case q1 => walk_at "my nn"); walk_at "my after")))
local macro_rules | `(tactic| walk_at "call ref") => `(tactic| (k_here; (with_reducible show wpAny _ _ (call (Value.ref 219) _) _ _ _); k_dflt ((refine' t_side ?k1 ?k2 ?k3 ?k4 ?k5 ?k6 ?k7 ?k8 ?q1 ?q2 ?q3 ?q4 ?q5 ?q6 ?q7 ?q8 ?q9 ?q10 ?q11 ?_); (case k1 => k_asm); (case k2 => k_asm); (case k3 => k_asm); (case k4 => k_asm); (case k5 => k_asm); (case k6 => first | exact rfl | assumption); (case k7 => ktr_room); (case k8 => ktr_units); (case q1 => walk_at "my nn"); (case q2 => walk_at "my nn"); (case q3 => walk_at "my nn"); (case q4 => walk_at "my nn"); (case q5 => walk_at "my nn"); (case q6 => walk_at "my nn"); (case q7 => walk_at "my nn"); (case q8 => walk_at "my nn"); (case q9 => walk_at "my nn"); (case q10 => walk_at "my nn"); (case q11 => walk_at "my nn"); k_whole); intro t9 h9 tk9 F9 N9; (try dsimp only); (try k_fold)))
theorem bI_mul {a b : Int} {i j : Nat} (h1 : bI a ≤ i) (h2 : bI b ≤ j) : bI (a * b) ≤ (i + j : Nat) := by
  have := PySem.intBits_mul_le (x := a) (y := b) (m := i) (n := j) (by unfold bI at h1; omega) (by unfold bI at h2; omega)
  unfold bI; omega
/-- while the root's binade is sought -/
def WInv (d : Dat) (e : Int) : Prop := d.LE 1 e ∧ -20 ≤ d.k * e - d.h
theorem winv_turn {d : Dat} (D : d.Ok) {e : Int} (h : WInv d e) (h2 : sideI d.m 1 d.k (e + 1) d.c d.h ≤ 0) : WInv d (e + 1) := by
  refine ⟨(side_le (x := 1)).mp h2, ?_⟩
  have := h.2
  have := D.k1
  rw [Int.mul_add]; omega
theorem winv_end {d : Dat} {e : Int} (h : WInv d e) (h2 : ¬ sideI d.m 1 d.k (e + 1) d.c d.h ≤ 0) : d.At e := ⟨h.1, fun x => h2 ((side_le (x := 1)).mpr x), h.2⟩
theorem winv_bounds {d : Dat} (D : d.Ok) {e : Int} (h : WInv d e) : -40 ≤ e ∧ e ≤ 45 ∧ d.k * (e + 1) - d.h ≤ 10000 ∧ -10000 ≤ d.k * (e + 1) - d.h := by
  have h1 := h.2
  have h2 := D.above h.1
  have h3 := D.h1
  have h4 := D.h2
  rw [Int.mul_add]
  rcases kcases D.k1 D.k2 with h | h | h | h <;> rw [h] at h1 h2 ⊢ <;> omega
abbrev ksC : List Str := [Str.ofString "e", Str.ofString "factor", Str.ofString "goal", Str.ofString "near", Str.ofString "h", Str.ofString "c", Str.ofString "m", Str.ofString "k", Str.ofString "p", Str.ofString "script"]
/-- behind the search for e -/
def PC (s : Shared) (h₀ : Heap) (L l : Addr) (s' : Shared) : Prop := ∃ (d : Dat) (_ : d.Ok) (e : Int) (_ : d.At e) (nv : Value) (t1 t2 t3 t4 t5 t6 : Tok) (Dg Df : Addr) (og of : Obj) (h' : Heap) (tk : Nat), s' = St s h' tk ∧
  Fr h₀ L h' (bnd [(Str.ofString "e", .int e t6), (Str.ofString "factor", .ref Df), (Str.ofString "goal", .ref Dg), (Str.ofString "near", nv), (Str.ofString "h", .int d.h t5), (Str.ofString "c", .int d.c t4), (Str.ofString "m", .int d.m t3), (Str.ofString "k", .int d.k t2), (Str.ofString "p", .int d.p t1), (Str.ofString "script", .ref l)]) ∧
  News h₀ L h' [(Df, of), (Dg, og)] ∧ IsSg og 0 d.c d.h ∧ IsSg of 0 d.m 0
section
variable {w : World} {loose : List Str} {mean : ExcName → Option Value} {mg mb : Str → Option Value} {h₀ : Heap} {L fa l : Addr} {cd : Value} {s : Shared} {vs : List Value} {ns : List Int}
   (B : Below callerA h₀ [] h₀) (X : (Mine.hd.heap_39 w.params).In h₀) (T : Top Mine.hd.view_39 loose mean mg mb h₀) (hl : h₀.IsList l vs.toArray) (hi : IntsAre vs ns) (hlen : ns.length ≤ 63)
include B X T
theorem segC {s1 : Shared} (h1 : PB s h₀ L l s1) :
   wpAny (model PySem.Challenge.rw_aa5011_01.row.prog w) (callerA.deeper (envOf (Str.ofString "law") lawScope L fa cd)) (execs [S7, S8, S9] (envOf (Str.ofString "law") lawScope L fa cd)) (fun f s' => f = .next ∧ PC s h₀ L l s') (fun _ _ => False) s1 := by
  revert X; k_fill; intro X
  obtain ⟨d, D, nv, t1, t2, t3, t4, t5, h', tk, rfl, F, N⟩ := h1
  delta S7 S8 S9 lawScope S7x S8x S9x lawScopex
  dsimp only
  k_fold
  have hk1 := D.k1
  have hk2 := D.k2
  have hm1 := D.m1
  have hm2 := D.m2
  have hc1 := D.c1
  have hc2 := D.c2
  have hh1 := D.h1
  have hh2 := D.h2
  walk_at "my steps"
  refine Halt.mk ?_
  have hS : WInv d ((((Builtin.Int.intBits (d.c : Int) : Nat) : Int) + d.h - ((Builtin.Int.intBits (d.m : Int) : Nat) : Int)) / (d.k : Int) - 2) :=
    D.start (by have h1 := bI_nat d.c; have h2 := bI_nat d.m; simp only [bI] at h1 h2; rw [h1, h2])
  k_while (fun (_ : List Int) (e : Int) => WInv d e) (fun (_ : List Int) (e : Int) => (60 - e).toNat) "e"
  clear hS
  rename WInv _ _ => hI
  have hb := winv_bounds D hI
  have hb1 := bI1
  have hb9 : bI ((d.m : Int) * pw 1 (d.k : Int)) ≤ 58 := bI_mul (i := 30) (j := 28) (bI_small (x := (d.m : Int)) (by omega) (by omega)) (bI_pw (x := 1) (k := (d.k : Int)) (by omega) (by omega) (by omega) (by omega)).1
  k_with "state" => exact winv_turn D hI (by assumption)
  walk_at "my steps"
  k_with_none
  rename Fr _ _ _ _ => F8
  rename News _ _ _ _ => N8
  simp only [List.contains_nil, Bool.false_eq_true, if_false, bnd_if] at F8
  replace F8 := frRe F8 (bnd_norm ksC (by simp))
  exact ⟨d, D, _, winv_end hI (by assumption), nv, _, _, _, _, _, _, _, _, _, _, _, _, rfl, F8, cb_drop N8 (by walk_at "my sub"), by assumption, by assumption⟩
end
/-! L3 -/
local macro_rules | `(tactic| walk_at "compareOp NotEq ref ref") => `(tactic| (refine Halt.out ?_))
local macro_rules | `(tactic| walk_at "compareOp Eq ref ref") => `(tactic| (refine Halt.out ?_))
abbrev ksD : List Str := [Str.ofString "b", Str.ofString "a", Str.ofString "up", Str.ofString "down", Str.ofString "e", Str.ofString "factor", Str.ofString "goal", Str.ofString "near", Str.ofString "h", Str.ofString "c", Str.ofString "m", Str.ofString "k", Str.ofString "p", Str.ofString "script"]
/-- behind the interval's making -/
def PD (s : Shared) (h₀ : Heap) (L l : Addr) (s' : Shared) : Prop := ∃ (d : Dat) (_ : d.Ok) (e : Int) (_ : d.At e) (nv : Value) (t1 t2 t3 t4 t5 t6 t7 t8 : Tok) (down up : Int) (Dg Df Da Db : Addr) (og of oa ob : Obj) (h' : Heap) (tk : Nat), s' = St s h' tk ∧
  Fr h₀ L h' (bnd [(Str.ofString "b", .ref Db), (Str.ofString "a", .ref Da), (Str.ofString "up", .int up t8), (Str.ofString "down", .int down t7), (Str.ofString "e", .int e t6), (Str.ofString "factor", .ref Df), (Str.ofString "goal", .ref Dg), (Str.ofString "near", nv), (Str.ofString "h", .int d.h t5), (Str.ofString "c", .int d.c t4), (Str.ofString "m", .int d.m t3), (Str.ofString "k", .int d.k t2), (Str.ofString "p", .int d.p t1), (Str.ofString "script", .ref l)]) ∧
  News h₀ L h' [(Db, ob), (Da, oa), (Df, of), (Dg, og)] ∧ IsSg og 0 d.c d.h ∧ IsSg of 0 d.m 0 ∧ IsSg oa 0 1 (e - down) ∧ IsSg ob 0 1 (e + 1 + up) ∧ 0 ≤ down ∧ down < 2 ∧ 0 ≤ up ∧ up < 2
section
variable {w : World} {loose : List Str} {mean : ExcName → Option Value} {mg mb : Str → Option Value} {h₀ : Heap} {L fa l : Addr} {cd : Value} {s : Shared} {vs : List Value} {ns : List Int}
   (B : Below callerA h₀ [] h₀) (X : (Mine.hd.heap_39 w.params).In h₀) (T : Top Mine.hd.view_39 loose mean mg mb h₀) (hl : h₀.IsList l vs.toArray) (hi : IntsAre vs ns) (hlen : ns.length ≤ 63)
include B X T hl hi hlen
theorem segD {s1 : Shared} (h1 : PC s h₀ L l s1) :
   wpAny (model PySem.Challenge.rw_aa5011_01.row.prog w) (callerA.deeper (envOf (Str.ofString "law") lawScope L fa cd)) (execs [S10, S11] (envOf (Str.ofString "law") lawScope L fa cd)) (fun f s' => f = .next ∧ PD s h₀ L l s') (fun _ _ => False) s1 := by
  revert X; k_fill; intro X
  obtain ⟨d, D, e, H, nv, t1, t2, t3, t4, t5, t6, Dg, Df, og, of, h', tk, rfl, F, N, ig, iF⟩ := h1
  delta S10 S11 lawScope S10x S11x lawScopex
  dsimp only
  k_fold
  walk_at "my steps"
  rename Fr _ _ _ _ => F8
  rename News _ _ _ _ => N8
  simp only [bnd_if] at F8
  replace F8 := frRe F8 (bnd_norm ksD (by simp))
  exact ⟨d, D, _, H, nv, _, _, _, _, _, _, _, _, _, _, _, _, _, _, _, _, _, _, _, _, rfl, F8, cb_drop N8 (by walk_at "my sub"), ig, iF, by assumption, by assumption, by assumption, by assumption, by assumption, by assumption⟩
end
/-! L4 -/
local macro_rules | `(tactic| walk_at "call ref") => `(tactic| (k_here; (with_reducible show wpAny _ _ (call (Value.ref 169) _) _ _ _); refine Halt.out ?_))
theorem lit1 {c : Nat} {t1 t2 t3 t4 : Tok} {E : Int} : IsSg (tup4 c 0 t1 1 t2 E t3 1 t4) 0 1 E := fin1 (by decide) (by decide) rfl rfl
/-- the width of the first interval, rounded up to one bit -/
theorem delta1 {o : Obj} {e dn' up' : Int} {j : Nat} (h1 : 0 ≤ dn') (h2 : dn' < 2) (h3 : 0 ≤ up') (h4 : up' < 2) (hj : (j : Int) = 1 + up' + dn')
    (x : IsSg o 0 (rdI 1 ((2 ^ j - 1 : Nat) : Int) 1) (e - dn' + shI ((2 ^ j - 1 : Nat) : Int) 1)) :
    (0 < dn' + up' → IsSg o 0 1 (e + 1 + up')) ∧ (¬ 0 < dn' + up' → IsSg o 0 1 (e - dn')) := by
  have hj' : j = 1 ∨ j = 2 ∨ j = 3 := by omega
  rw [show (1 : Int) = ((1 : Nat) : Int) from rfl] at x
  rcases hj' with rfl | rfl | rfl
  · refine ⟨fun h => by omega, fun _ => ?_⟩
    have := isSg_ans (p := 1) (k := 1) (N := 2 ^ 1 - 1) (A := 1) (n := 0) (G := e - dn') ⟨by decide +kernel, by decide +kernel⟩ (by omega) x
    exact this
  · refine ⟨fun _ => ?_, fun h => by omega⟩
    have := isSg_ans (p := 1) (k := 1) (N := 2 ^ 2 - 1) (A := 1 * 2 ^ 1) (n := 1) (G := e - dn' + 1) ⟨by decide +kernel, by decide +kernel⟩ (by omega) x
    rw [isSg_shift (by omega)] at this
    rw [show e + 1 + up' = e - dn' + 1 + ((1 : Nat) : Int) by omega]; exact this
  · refine ⟨fun _ => ?_, fun h => by omega⟩
    have := isSg_ans (p := 1) (k := 1) (N := 2 ^ 3 - 1) (A := 1 * 2 ^ 1) (n := 2) (G := e - dn' + 2) ⟨by decide +kernel, by decide +kernel⟩ (by omega) x
    rw [isSg_shift (by omega)] at this
    rw [show e + 1 + up' = e - dn' + 2 + ((1 : Nat) : Int) by omega]; exact this
theorem delta5 {o : Obj} {e dn' up' : Int} {j : Nat} (h1 : 0 ≤ dn') (h2 : dn' < 2) (h3 : 0 ≤ up') (h4 : up' < 2) (hj : (j : Int) = 1 + up' + dn')
    (x : IsSg o 0 (rdI 1 ((5 * 2 ^ j - 1 : Nat) : Int) 1) (e - dn' + shI ((5 * 2 ^ j - 1 : Nat) : Int) 1)) : IsSg o 0 1 (e + 4 + up') := by
  have hj' : j = 1 ∨ j = 2 ∨ j = 3 := by omega
  rw [show (1 : Int) = ((1 : Nat) : Int) from rfl] at x
  rcases hj' with rfl | rfl | rfl
  · have := isSg_ans (p := 1) (k := 1) (N := 5 * 2 ^ 1 - 1) (A := 1 * 2 ^ 1) (n := 3) (G := e - dn' + 3) ⟨by decide +kernel, by decide +kernel⟩ (by omega) x
    rw [isSg_shift (by omega)] at this
    rw [show e + 4 + up' = e - dn' + 3 + ((1 : Nat) : Int) by omega]; exact this
  · have := isSg_ans (p := 1) (k := 1) (N := 5 * 2 ^ 2 - 1) (A := 1 * 2 ^ 1) (n := 4) (G := e - dn' + 4) ⟨by decide +kernel, by decide +kernel⟩ (by omega) x
    rw [isSg_shift (by omega)] at this
    rw [show e + 4 + up' = e - dn' + 4 + ((1 : Nat) : Int) by omega]; exact this
  · have := isSg_ans (p := 1) (k := 1) (N := 5 * 2 ^ 3 - 1) (A := 1 * 2 ^ 1) (n := 5) (G := e - dn' + 5) ⟨by decide +kernel, by decide +kernel⟩ (by omega) x
    rw [isSg_shift (by omega)] at this
    rw [show e + 4 + up' = e - dn' + 5 + ((1 : Nat) : Int) by omega]; exact this
section
variable {w : World} {loose : List Str} {mean : ExcName → Option Value} {mg mb : Str → Option Value} {h₀ : Heap} {L fa l : Addr} {cd : Value} {s : Shared} {vs : List Value} {ns : List Int}
   (B : Below callerA h₀ [] h₀) (X : (Mine.hd.heap_39 w.params).In h₀) (T : Top Mine.hd.view_39 loose mean mg mb h₀) (hl : h₀.IsList l vs.toArray) (hi : IntsAre vs ns) (hlen : ns.length ≤ 63)
include B X T hl hi hlen
theorem segE {s1 : Shared} (h1 : PD s h₀ L l s1) :
   wpAny (model PySem.Challenge.rw_aa5011_01.row.prog w) (callerA.deeper (envOf (Str.ofString "law") lawScope L fa cd)) (execs [S12, S13] (envOf (Str.ofString "law") lawScope L fa cd)) (fun f s' => f = .next ∧ PD s h₀ L l s') (fun _ _ => False) s1 := by
  revert X; k_fill; intro X
  obtain ⟨d, D, e, H, nv, t1, t2, t3, t4, t5, t6, t7, t8, down, up', Dg, Df, Da, Db, og, of, oa, ob, h', tk, rfl, F, N, ig, iF, ia, ib, r1, r2, r3, r4⟩ := h1
  obtain ⟨j, hj⟩ : ∃ j : Nat, (j : Int) = 1 + up' + down := ⟨(1 + up' + down).toNat, by omega⟩
  have ia' : IsSg oa 0 ((1 : Nat) : Int) (e - down) := ia
  have ib' : IsSg ob 0 ((2 ^ j : Nat) : Int) (e - down) := by
    have := (@isSg_shift ob 0 (e - down) 1 (by omega) j).mpr (by rw [show e - down + (j : Int) = e + 1 + up' by omega]; exact ib)
    rw [Nat.one_mul] at this; exact this
  have hj3 : 2 ≤ 2 ^ j ∧ 2 ^ j ≤ 8 := by
    have hj' : j = 1 ∨ j = 2 ∨ j = 3 := by omega
    rcases hj' with rfl | rfl | rfl <;> decide
  have hbl : bl (2 ^ j) ≤ 100 := by rw [bl_pow]; omega
  delta S12 S13 lawScope S12x S13x lawScopex
  dsimp only
  (try k_fold)
  walk_at "my steps"
  refine Halt.mk ?_
  refine r_neF (by walk_at "my get") (by walk_at "my get") ia lit1 (by ktr_units) ?_
  walk_at "my steps"
  refine Halt.mk ?_
  refine r_neF (by walk_at "my get") (by walk_at "my get") ib lit1 (by ktr_units) ?_
  walk_at "my steps"
  refine Halt.mk ?_
  rename Fr _ _ _ _ => F8
  rename News _ _ _ _ => N8
  k_dflt (refine' t_delta B F8 X N8 T rfl ?hd ?hu ?m1 ?m2 ?m3 ia' ib' (by decide) (by omega) (by decide +kernel) hbl (by omega) (by decide) ?_)
  (case hd => ktr_room)
  (case hu => ktr_units)
  (case m1 => walk_at "my mem")
  (case m2 => walk_at "my mem")
  (case m3 => walk_at "my mem")
  intro D9 o9 h9 tk9 P9 F9 N9
  have P10 := delta1 r1 r2 r3 r4 hj P9
  have hbl5 : bl (5 * 2 ^ j) ≤ 100 := by rw [bl_shift (by omega)]; have : bl 5 ≤ 3 := by decide +kernel
                                         omega
  by_cases hdu : 0 < down + up'
  · have P11 := P10.1 hdu
    clear F8 N8
    (try dsimp only)
    walk_at "my steps"
    refine Halt.mk ?_
    refine r_neF (by walk_at "my get") (by walk_at "my get") P11 ib (by ktr_units) ?_
    walk_at "my steps"
    refine Halt.mk ?_
    rename IsSg _ 0 5 _ => P5
    have i5 := (isSg_shift (o := _) (sg := 0) (e := e - down) (A := 5) (by omega) j).mpr (by rw [show e - down + (j : Int) = e + 1 + up' by omega]; exact P5)
    rename Fr _ _ _ _ => F8
    rename News _ _ _ _ => N8
    k_dflt (refine' t_delta B F8 X N8 T rfl ?hd ?hu ?m1 ?m2 ?m3 ia' i5 (by decide) (by omega) (by decide +kernel) hbl5 (by omega) (by decide) ?_)
    (case hd => ktr_room)
    (case hu => ktr_units)
    (case m1 => walk_at "my mem")
    (case m2 => walk_at "my mem")
    (case m3 => walk_at "my mem")
    intro D8 o8 h8 tk8 P8 F7 N7
    have P12 := delta5 r1 r2 r3 r4 hj P8
    clear F8 N8
    (try dsimp only)
    walk_at "my steps"
    refine Halt.mk ?_
    refine r_neF (by walk_at "my get") (by walk_at "my get") P12 lit1 (by ktr_units) ?_
    walk_at "my steps"
    rename Fr _ _ _ _ => F8
    rename News _ _ _ _ => N8
    exact ⟨d, D, e, H, nv, _, _, _, _, _, _, _, _, _, _, _, _, _, _, _, _, _, _, _, _, rfl, F8, cb_drop N8 (by walk_at "my sub"), ig, iF, ia, ib, r1, r2, r3, r4⟩
  · have P11 := P10.2 hdu
    clear F8 N8
    (try dsimp only)
    walk_at "my steps"
    refine Halt.mk ?_
    refine r_neF (by walk_at "my get") (by walk_at "my get") P11 ia (by ktr_units) ?_
    walk_at "my steps"
    refine Halt.mk ?_
    rename IsSg _ 0 5 _ => P5
    have i5 := (isSg_shift (o := _) (sg := 0) (e := e - down) (A := 5) (by omega) j).mpr (by rw [show e - down + (j : Int) = e + 1 + up' by omega]; exact P5)
    rename Fr _ _ _ _ => F8
    rename News _ _ _ _ => N8
    k_dflt (refine' t_delta B F8 X N8 T rfl ?hd ?hu ?m1 ?m2 ?m3 ia' i5 (by decide) (by omega) (by decide +kernel) hbl5 (by omega) (by decide) ?_)
    (case hd => ktr_room)
    (case hu => ktr_units)
    (case m1 => walk_at "my mem")
    (case m2 => walk_at "my mem")
    (case m3 => walk_at "my mem")
    intro D8 o8 h8 tk8 P8 F7 N7
    have P12 := delta5 r1 r2 r3 r4 hj P8
    clear F8 N8
    (try dsimp only)
    walk_at "my steps"
    refine Halt.mk ?_
    refine r_neF (by walk_at "my get") (by walk_at "my get") P12 lit1 (by ktr_units) ?_
    walk_at "my steps"
    rename Fr _ _ _ _ => F8
    rename News _ _ _ _ => N8
    exact ⟨d, D, e, H, nv, _, _, _, _, _, _, _, _, _, _, _, _, _, _, _, _, _, _, _, _, rfl, F8, cb_drop N8 (by walk_at "my sub"), ig, iF, ia, ib, r1, r2, r3, r4⟩
end
/-! L5 -/
section
open PyProof.V
variable {prog : Program} {w : World} {A : Around} {E : Value → Shared → Prop} {s : Shared} {env : Env} {h₀ : Heap} {x : Str} {body : List Stmt} {Q : Flow → Shared → Prop}
/-- behind a turn -/
def TurnP (h₀ : Heap) (L : Addr) (s : Shared) (J : Nat → Mp → Led → Prop) (I : Addr) (it : Obj) (i : Nat) (s' : Shared) : Prop := ∃ h' tk' m' news', s' = { s with heap := h', toks := tk' } ∧ Fr h₀ L h' m' ∧ News h₀ L h' ((I, it) :: news') ∧ (∀ p ∈ news', p.2.cls ≠ .type "range_iterator") ∧ J i m' news'
/-- a loop over a range, whose turn may make new objects -/
theorem iter_range {r : Addr} {a₀ b₀ c₀ : Int} {t₀ u₀ v₀ : Tok} {n : Nat} {m₀ : Mp} {news : Led} (J : Nat → Mp → Led → Prop)
    (hh : A.handled = none) (hr : IsRange s.heap r a₀ b₀ c₀ t₀ u₀ v₀) (hsmall : Builtin.Range.small a₀ b₀ c₀ = true) (hn : Builtin.Range.rangeSize a₀ b₀ c₀ = (n : Int)) (F : Fr h₀ env.locals s.heap m₀) (N : News h₀ env.locals s.heap news) (hj : J 0 m₀ news)
    (turn : ∀ (i : Nat) (t : Tok) (m₁ : Mp) (news₁ : Led) (I : Addr) (it : Obj) (h : Heap) (tk : Nat), i < n → J i m₁ news₁ → it.cls = .type "range_iterator" → Fr h₀ env.locals h (fun y => if y = x then some (.int (a₀ + i * c₀) t) else m₁ y) → News h₀ env.locals h ((I, it) :: news₁) →
      wpAny (model prog w) A (execs body env) (fun f s' => f = .next ∧ TurnP h₀ env.locals s J I it (i + 1) s') E { s with heap := h, toks := tk })
    (done : ∀ m₁ news₁ h tk, J n m₁ news₁ → Fr h₀ env.locals h m₁ → News h₀ env.locals h news₁ → Q .next { s with heap := h, toks := tk }) :
    wpAny (model prog w) A (pyIter (.ref r)) (fun it s₂ => LoopAtV prog w A h₀ env x body Q E it s₂) E s := by
  refine wpAny_pyIter_range hr hsmall ?_
  have W := (Walks.range (prog := prog) (w := w) hh s.heap.objs.size a₀ c₀ n).bound
  have hnew := next_is_new F
  refine ⟨_, _, _, n, _, _, m₀, news, J, rfl, W, ?_, ?_, ?_, (by show IsRangeIter _ _ _ _ _; rw [hn]; simpa using Heap.get?_push_size _ rfl), F.push _, (fun p hp => ⟨Heap.get?_push_of_some _ (N p hp).1, (N p hp).2⟩), hj, ?_, ?_⟩
  · intro hm
    exact absurd F.ns.lt ((List.mem_singleton.mp hm) ▸ Nat.lt_irrefl _)
  · intro b hb
    rw [List.mem_singleton.mp hb]
    exact hnew
  · intro p hp hI
    exact absurd (Heap.lt_size (N p hp).1) ((List.mem_singleton.mp hI) ▸ Nat.lt_irrefl _)
  · rintro i v m₁ news₁ s₁ own ⟨hh', tk', rfl⟩ hin hP hJ hoff hown hget hall hst F₁ N₁
    obtain ⟨hin', t, rfl⟩ := hP
    have hmemI := hall s.heap.objs.size (List.mem_singleton.mpr rfl) hnew _ hst
    have N₂ : News h₀ env.locals hh' ((s.heap.objs.size, _) :: news₁) := fun p hp => by
      rcases List.mem_cons.mp hp with rfl | hp
      · exact N₁ _ (List.mem_append_left _ hmemI)
      · exact N₁ _ (List.mem_append_right _ hp)
    refine wpAny_mono (turn i t m₁ news₁ s.heap.objs.size _ hh' tk' hin hJ rfl F₁ N₂) (fun f s₂ p => ?_) fun _ _ e => e
    obtain ⟨rfl, h', tk2, m', news', rfl, F', N', hcls, hJ'⟩ := p
    refine .next ⟨rfl, h', tk2, m', news', rfl, F', ?_, ?_, hJ'⟩
    · intro q hq
      rcases List.mem_append.mp hq with hq | hq
      · have h1 := List.mem_singleton.mp (hown q hq)
        have h2 : hh'.get? q.1 = some q.2 := hget q hq
        have h3 := (N₂ _ (List.mem_cons_self ..)).1
        have h4 : q = (s.heap.objs.size, _) := Prod.ext h1 (Option.some.inj (h2.symm.trans (h1 ▸ h3)))
        rw [h4]; exact N' _ (List.mem_cons_self ..)
      · exact N' _ (List.mem_cons_of_mem _ hq)
    · intro q hq hI
      have h1 := List.mem_singleton.mp hI
      have h2 := (N' _ (List.mem_cons_of_mem _ hq)).1
      have h3 := (N' _ (List.mem_cons_self ..)).1
      rw [h1] at h2
      have h4 := Option.some.inj (h2.symm.trans h3)
      exact hcls q hq (by rw [h4])
  · rintro h' tk m' news' F' N' _ hJ
    exact done m' news' h' tk hJ F' N'
end
/-- the law's state behind the first interval -/
structure LC where
  d : Dat
  e : Int
  nv : Value
  uv : Value
  dv : Value
  t1 : Tok
  t2 : Tok
  t3 : Tok
  t4 : Tok
  t5 : Tok
  t6 : Tok
  Dg : Addr
  Df : Addr
  Da : Addr
  Db : Addr
  og : Obj
  of : Obj
  oa : Obj
  ob : Obj
  A : Nat
  B : Nat
abbrev LC.nm (c : LC) (l : Addr) : List (Str × Value) := [(Str.ofString "b", .ref c.Db), (Str.ofString "a", .ref c.Da), (Str.ofString "up", c.uv), (Str.ofString "down", c.dv), (Str.ofString "e", .int c.e c.t6), (Str.ofString "factor", .ref c.Df), (Str.ofString "goal", .ref c.Dg), (Str.ofString "near", c.nv), (Str.ofString "h", .int c.d.h c.t5), (Str.ofString "c", .int c.d.c c.t4), (Str.ofString "m", .int c.d.m c.t3), (Str.ofString "k", .int c.d.k c.t2), (Str.ofString "p", .int c.d.p c.t1), (Str.ofString "script", .ref l)]
abbrev LC.led (c : LC) : Led := [(c.Db, c.ob), (c.Da, c.oa), (c.Df, c.of), (c.Dg, c.og)]
structure LC.Ok (c : LC) : Prop where
  D : c.d.Ok
  H : c.d.At c.e
  ig : IsSg c.og 0 c.d.c c.d.h
  iF : IsSg c.of 0 c.d.m 0
  ia : IsSg c.oa 0 c.A (c.e - c.d.p)
  ib : IsSg c.ob 0 c.B (c.e - c.d.p)
  gA : Grid c.d.p c.A
  gB : Grid c.d.p c.B
  lt : c.A < c.B
  lA : c.d.LE c.A (c.e - c.d.p)
  lB : ¬ c.d.LE c.B (c.e - c.d.p)
def PE (s : Shared) (h₀ : Heap) (L l : Addr) (s' : Shared) : Prop := ∃ (c : LC) (_ : c.Ok) (h' : Heap) (tk : Nat), s' = St s h' tk ∧ Fr h₀ L h' (bnd (c.nm l)) ∧ News h₀ L h' c.led
theorem pe_of {s : Shared} {h₀ : Heap} {L l : Addr} {s' : Shared} (h : PD s h₀ L l s') : PE s h₀ L l s' := by
  obtain ⟨d, D, e, H, nv, t1, t2, t3, t4, t5, t6, t7, t8, down, up', Dg, Df, Da, Db, og, of, oa, ob, h', tk, rfl, F, N, ig, iF, ia, ib, r1, r2, r3, r4⟩ := h
  have hp := D.p1
  obtain ⟨ja, hja⟩ : ∃ ja : Nat, (ja : Int) = d.p - down := ⟨((d.p : Int) - down).toNat, by omega⟩
  obtain ⟨jb, hjb⟩ : ∃ jb : Nat, (jb : Int) = d.p + 1 + up' := ⟨((d.p : Int) + 1 + up').toNat, by omega⟩
  have h1 := At.le_one D H d.p
  refine ⟨⟨d, e, nv, .int up' t8, .int down t7, t1, t2, t3, t4, t5, t6, Dg, Df, Da, Db, og, of, oa, ob, 2 ^ ja, 2 ^ jb⟩, ⟨D, H, ig, iF, ?_, ?_, grid_pow (show 1 ≤ d.p by omega) (by show d.p ≤ ja + 1; omega) (by show ja ≤ d.p + 2; omega), grid_pow (show 1 ≤ d.p by omega) (by show d.p ≤ jb + 1; omega) (by show jb ≤ d.p + 2; omega), Nat.pow_lt_pow_right (by omega) (by omega), ?_, ?_⟩, h', tk, rfl, F, N⟩
  · have := (@isSg_shift oa 0 (e - d.p) 1 (by omega) ja).mpr (by rw [show e - (d.p : Int) + (ja : Int) = e - down by omega]; exact ia)
    rw [Nat.one_mul] at this; exact this
  · have := (@isSg_shift ob 0 (e - d.p) 1 (by omega) jb).mpr (by rw [show e - (d.p : Int) + (jb : Int) = e + 1 + up' by omega]; exact ib)
    rw [Nat.one_mul] at this; exact this
  · exact le_mono (Nat.pow_le_pow_right (by omega) (by omega)) h1.1
  · exact fun x => h1.2 (le_mono (Nat.pow_le_pow_right (by omega) (by omega)) x)
/-! L6 -/
abbrev LC.nm1 (c : LC) (l : Addr) (x : Value) : List (Str × Value) := (Str.ofString "cut", x) :: c.nm l
abbrev LC.nm3 (c : LC) (l : Addr) (x y z : Value) : List (Str × Value) := (Str.ofString "rest", z) :: (Str.ofString "q", y) :: (Str.ofString "cut", x) :: c.nm l
abbrev ksG : List Str := Str.ofString "rest" :: Str.ofString "q" :: Str.ofString "cut" :: ksD
def PF (s : Shared) (h₀ : Heap) (L l : Addr) (s' : Shared) : Prop := ∃ (c : LC) (_ : c.Ok) (t : Tok) (h' : Heap) (tk : Nat), s' = St s h' tk ∧ Fr h₀ L h' (bnd (c.nm1 l (.int (rsh c.d.c c.d.p : Nat) t))) ∧ News h₀ L h' c.led
def PG (s : Shared) (h₀ : Heap) (L l : Addr) (s' : Shared) : Prop := ∃ (c : LC) (_ : c.Ok) (t u : Tok) (z : Value) (h' : Heap) (tk : Nat), s' = St s h' tk ∧ Fr h₀ L h' (bnd (c.nm3 l (.int (rsh c.d.c c.d.p : Nat) t) (.int (rd 2 c.d.c c.d.p : Nat) u) z)) ∧ News h₀ L h' c.led
theorem cut_eq (c p : Nat) : (if 0 > ((Builtin.Int.intBits (c : Int) : Nat) : Int) - (p : Int) then 0 else ((Builtin.Int.intBits (c : Int) : Nat) : Int) - (p : Int)) = ((rsh c p : Nat) : Int) := by
  have h1 : ((Builtin.Int.intBits (c : Int) : Nat) : Int) = (bl c : Int) := bI_nat c
  rw [h1]; unfold rsh
  split <;> omega
theorem cut_facts {c p : Nat} (h : c < 2 ^ 25) : (0 : Int) ≤ (rsh c p : Nat) ∧ bI 1 + ((rsh c p : Nat) : Int) ≤ 100000 ∧ 0 < shl 1 (rsh c p : Nat) ∧ bI (shl 1 (rsh c p : Nat)) ≤ 26 ∧ bI 2 ≤ 100000 ∧ bI ((c : Int) % shl 1 (rsh c p : Nat)) ≤ 100000 := by
  have h1 : bl c ≤ 25 := bl_le_of_lt h
  have h2 : rsh c p ≤ 25 := by unfold rsh; omega
  have e : shl 1 (rsh c p : Nat) = ((1 * 2 ^ rsh c p : Nat) : Int) := shl_nat (a := 1)
  have hp := pos2 (rsh c p)
  rw [Nat.one_mul] at e
  refine ⟨by omega, by rw [bI1]; omega, by rw [e]; omega, ?_, by decide +kernel, ?_⟩
  · rw [e, bI_nat, bl_pow]; omega
  · rw [e, ← Int.natCast_emod, bI_nat]
    have := bl_mono (Nat.mod_le c (2 ^ rsh c p))
    omega
/-- the rounding to the nearest, as the law computes it -/
theorem q_up {c p : Nat} (h : 2 * ((c : Int) % shl 1 (rsh c p : Nat)) > shl 1 (rsh c p : Nat)) : (c : Int) / shl 1 (rsh c p : Nat) + 1 = (rd 2 c p : Nat) := by
  have e : shl 1 (rsh c p : Nat) = ((1 * 2 ^ rsh c p : Nat) : Int) := shl_nat (a := 1)
  rw [Nat.one_mul] at e
  rw [e, ← Int.natCast_emod] at h
  rw [e, ← Int.natCast_ediv, rd2_eq _ _ _ rfl, if_pos (Or.inl (by omega))]
  omega
theorem q_tie {c p : Nat} (h : 2 * ((c : Int) % shl 1 (rsh c p : Nat)) = shl 1 (rsh c p : Nat)) (h2 : (c : Int) / shl 1 (rsh c p : Nat) % 2 = 1) : (c : Int) / shl 1 (rsh c p : Nat) + 1 = (rd 2 c p : Nat) := by
  have e : shl 1 (rsh c p : Nat) = ((1 * 2 ^ rsh c p : Nat) : Int) := shl_nat (a := 1)
  rw [Nat.one_mul] at e
  rw [e, ← Int.natCast_emod] at h
  rw [e, ← Int.natCast_ediv] at h2 ⊢
  rw [rd2_eq _ _ _ rfl, if_pos (Or.inr ⟨by omega, by omega⟩)]
  omega
theorem q_dn {c p : Nat} (h : ¬ 2 * ((c : Int) % shl 1 (rsh c p : Nat)) > shl 1 (rsh c p : Nat)) (h2 : ¬ (2 * ((c : Int) % shl 1 (rsh c p : Nat)) = shl 1 (rsh c p : Nat)) ∨ ¬ ((c : Int) / shl 1 (rsh c p : Nat) % 2 = 1)) : (c : Int) / shl 1 (rsh c p : Nat) = (rd 2 c p : Nat) := by
  have e : shl 1 (rsh c p : Nat) = ((1 * 2 ^ rsh c p : Nat) : Int) := shl_nat (a := 1)
  rw [Nat.one_mul] at e
  rw [e, ← Int.natCast_emod, ← Int.natCast_ediv] at h2
  rw [e, ← Int.natCast_emod] at h
  rw [e, ← Int.natCast_ediv]
  rw [rd2_eq _ _ _ rfl, if_neg ?_]
  rintro (x | x)
  · omega
  · rcases h2 with h2 | h2
    · exact h2 (by have := x.1; omega)
    · exact h2 (by have := x.2; omega)
section
variable {w : World} {loose : List Str} {mean : ExcName → Option Value} {mg mb : Str → Option Value} {h₀ : Heap} {L fa l : Addr} {cd : Value} {s : Shared} {vs : List Value} {ns : List Int}
   (B : Below callerA h₀ [] h₀) (X : (Mine.hd.heap_39 w.params).In h₀) (T : Top Mine.hd.view_39 loose mean mg mb h₀) (hl : h₀.IsList l vs.toArray) (hi : IntsAre vs ns) (hlen : ns.length ≤ 63)
include B X T hl hi hlen
theorem segF {s1 : Shared} (h1 : PE s h₀ L l s1) :
   wpAny (model PySem.Challenge.rw_aa5011_01.row.prog w) (callerA.deeper (envOf (Str.ofString "law") lawScope L fa cd)) (execs [S14] (envOf (Str.ofString "law") lawScope L fa cd)) (fun f s' => f = .next ∧ PF s h₀ L l s') (fun _ _ => False) s1 := by
  revert X; k_fill; intro X
  obtain ⟨c, O, h', tk, rfl, F, N⟩ := h1
  delta S14 lawScope S14x lawScopex
  dsimp only
  (try k_fold)
  walk_at "my steps"
  rename Fr _ _ _ _ => F8
  rename News _ _ _ _ => N8
  simp only [bnd_if] at F8
  rw [cut_eq] at F8
  exact ⟨c, O, _, _, _, rfl, F8, N8⟩
theorem segG {s1 : Shared} (h1 : PF s h₀ L l s1) :
   wpAny (model PySem.Challenge.rw_aa5011_01.row.prog w) (callerA.deeper (envOf (Str.ofString "law") lawScope L fa cd)) (execs [S15, S16] (envOf (Str.ofString "law") lawScope L fa cd)) (fun f s' => f = .next ∧ PG s h₀ L l s') (fun _ _ => False) s1 := by
  revert X; k_fill; intro X
  obtain ⟨c, O, t, h', tk, rfl, F, N⟩ := h1
  obtain ⟨f1, f2, f3, f4, f5, f6⟩ := cut_facts (p := c.d.p) O.D.c2
  have f7 : bI (shl 1 (rsh c.d.c c.d.p : Nat)) ≤ 8000 := by omega
  have f8 := q_up (c := c.d.c) (p := c.d.p)
  have f9 := q_tie (c := c.d.c) (p := c.d.p)
  have f0 := q_dn (c := c.d.c) (p := c.d.p)
  delta S15 S16 lawScope S15x S16x lawScopex
  dsimp only
  (try k_fold)
  walk_at "my steps"
  all_goals (
    rename Fr _ _ _ _ => F8
    rename News _ _ _ _ => N8
    (try simp only [bnd_if] at F8)
    (try replace F8 := frRe F8 (bnd_norm ksG (by simp)))
    first
      | (have e := f8 (by assumption); rw [e] at F8; exact ⟨rfl, c, O, _, _, _, _, _, rfl, F8, cb_drop N8 (by walk_at "my sub")⟩)
      | (have e := f8 (by assumption); rw [e] at F8; exact ⟨c, O, _, _, _, _, _, rfl, F8, cb_drop N8 (by walk_at "my sub")⟩)
      | (have e := f9 (by assumption) (by assumption); rw [e] at F8; exact ⟨c, O, _, _, _, _, _, rfl, F8, cb_drop N8 (by walk_at "my sub")⟩)
      | (have e := f0 (by assumption) (Or.inr (by assumption)); rw [e] at F8; exact ⟨c, O, _, _, _, _, _, rfl, F8, cb_drop N8 (by walk_at "my sub")⟩)
      | (have e := f0 (by assumption) (Or.inl (by assumption)); rw [e] at F8; exact ⟨c, O, _, _, _, _, _, rfl, F8, cb_drop N8 (by walk_at "my sub")⟩))
end
/-! L7 -/
local macro_rules | `(tactic| walk_at "call ref") => `(tactic| (k_here; (with_reducible show wpAny _ _ (call (Value.ref 226) [_, _]) _ _ _); k_dflt ((refine' t_number ?k1 ?k2 ?k3 ?k4 ?k5 ?k6 ?k7 ?k8 ?q1 ?q2 ?_); (case k1 => k_asm); (case k2 => k_asm); (case k3 => k_asm); (case k4 => k_asm); (case k5 => k_asm); (case k6 => first | exact rfl | assumption); (case k7 => ktr_room); (case k8 => ktr_units); (case q1 => walk_at "my nn"); (case q2 => walk_at "my nn"); walk_at "my after")))
local macro_rules | `(tactic| walk_at "call ref") => `(tactic| (k_here; (with_reducible show wpAny _ _ (call (Value.ref 176) _) _ _ _); refine Halt.out ?_))
theorem mid_self {o : Obj} {c p : Nat} {h : Int} (hc : 0 < c) (hp : 1 ≤ p) (x : IsSg o 0 (rdI 2 ((c + c : Nat) : Int) p) (h + shI ((c + c : Nat) : Int) p + (-1))) : IsSg o 0 ((rd 2 c p : Nat) : Int) (h + ((rsh c p : Nat) : Int)) := by
  have := (@isSg_rd o 0 (h - 1) 2 c p hc hp 1).mp (by
    rw [show c * 2 ^ 1 = c + c by omega, show h - 1 + shI ((c + c : Nat) : Int) p = h + shI ((c + c : Nat) : Int) p + (-1) by omega]; exact x)
  rw [rdI_def, shI_def, Int.toNat_natCast, Int.toNat_natCast, show h - 1 + ((1 : Nat) : Int) + ((rsh c p : Nat) : Int) = h + ((rsh c p : Nat) : Int) by omega] at this
  exact this
theorem mid_mid {o : Obj} {S p : Nat} {u : Int} (hp : 1 ≤ p) (hS : 0 < S) (h1 : 1 ≤ rsh S p) (x : IsSg o 0 (rdI 2 (S : Int) p) (u + shI (S : Int) p + (-1))) : IsSg o 0 ((midN p S : Nat) : Int) u := by
  rw [rdI_def, shI_def, Int.toNat_natCast, Int.toNat_natCast] at x
  unfold midN
  rw [isSg_shift (rd_pos hp hS), show u + ((rsh S p - 1 : Nat) : Int) = u + ((rsh S p : Nat) : Int) + (-1) by omega]
  exact x
theorem rdq_bits {c p : Nat} (h : c < 2 ^ 25) : bI ((rd 2 c p : Nat) : Int) ≤ 500 := by
  rw [bI_nat]
  have h1 := (rd_near 2 c p).2
  have h2 := Nat.div_le_self c (2 ^ rsh c p)
  have := bl_le_of_lt (n := rd 2 c p) (k := 26) (by omega)
  omega
section
variable {w : World} {loose : List Str} {mean : ExcName → Option Value} {mg mb : Str → Option Value} {h₀ : Heap} {L fa l : Addr} {cd : Value} {s : Shared} {vs : List Value} {ns : List Int}
   (B : Below callerA h₀ [] h₀) (X : (Mine.hd.heap_39 w.params).In h₀) (T : Top Mine.hd.view_39 loose mean mg mb h₀) (hl : h₀.IsList l vs.toArray) (hi : IntsAre vs ns) (hlen : ns.length ≤ 63)
include B X T hl hi hlen
theorem segH {s1 : Shared} (h1 : PG s h₀ L l s1) :
   wpAny (model PySem.Challenge.rw_aa5011_01.row.prog w) (callerA.deeper (envOf (Str.ofString "law") lawScope L fa cd)) (execs [S17] (envOf (Str.ofString "law") lawScope L fa cd)) (fun f s' => f = .next ∧ PG s h₀ L l s') (fun _ _ => False) s1 := by
  revert X; k_fill; intro X
  obtain ⟨c, O, t, u, z, h', tk, rfl, F, N⟩ := h1
  have hc1 : 0 < c.d.c := O.D.c1
  have hp1 := O.D.p1
  have hb : bl c.d.c ≤ 100 := by have := bl_le_of_lt O.D.c2; omega
  have hq1 : (0 : Int) < ((rd 2 c.d.c c.d.p : Nat) : Int) := by have := rd_pos (k := 2) (show 1 ≤ c.d.p by omega) hc1; omega
  have hq2 := rdq_bits (p := c.d.p) O.D.c2
  have ig := O.ig
  delta S17 lawScope S17x lawScopex
  dsimp only
  (try k_fold)
  walk_at "my steps"
  refine Halt.mk ?_
  rename Fr _ _ _ _ => F8
  rename News _ _ _ _ => N8
  k_dflt (refine' t_mid B F8 X N8 T rfl ?hd ?hu ?m1 ?m2 ?m3 ig ig hc1 hc1 hb hb (by omega) ?_)
  (case hd => ktr_room)
  (case hu => ktr_units)
  (case m1 => walk_at "my mem")
  (case m2 => walk_at "my mem")
  (case m3 => walk_at "my mem")
  intro D9 o9 h9 tk9 P9 F9 N9
  have P10 := mid_self hc1 (by omega) P9
  clear F8 N8
  (try dsimp only)
  walk_at "my steps"
  refine Halt.mk ?_
  refine r_neF (by walk_at "my get") (by walk_at "my get") P10 (by assumption) (by ktr_units) ?_
  walk_at "my steps"
  rename Fr _ _ _ _ => F8
  rename News _ _ _ _ => N8
  exact ⟨c, O, _, _, _, _, _, rfl, F8, cb_drop N8 (by walk_at "my sub")⟩
end
/-! L8 -/
/-- a frame's names, some of them perhaps unbound -/
def bndO (l : List (Str × Option Value)) : Mp := fun y => (l.lookup y).getD none
theorem bndO_if {x y : Str} {v : Value} {l : List (Str × Option Value)} : (if y = x then some v else bndO l y) = bndO ((x, some v) :: l) y := by
  unfold bndO
  rw [List.lookup_cons]
  by_cases h : y = x
  · subst h; simp
  · rw [if_neg h]
    have : (y == x) = false := by simpa using h
    rw [this]
def nrmO (ks : List Str) (l : List (Str × Option Value)) : List (Str × Option Value) := ks.map fun k => (k, (l.lookup k).getD none)
theorem nrmO_lookup (l : List (Str × Option Value)) (x : Str) : ∀ ks : List Str, ((nrmO ks l).lookup x).getD none = if x ∈ ks then (l.lookup x).getD none else none
  | [] => rfl
  | k :: ks => by
    have ih := nrmO_lookup l x ks
    unfold nrmO at ih ⊢
    rw [List.map_cons, List.lookup_cons]
    by_cases hx : x = k
    · subst hx
      rw [if_pos (List.mem_cons_self ..)]; simp
    · have e : (x ∈ k :: ks) ↔ x ∈ ks := by simp [hx]
      have hb : (x == k) = false := by simpa using hx
      rw [hb]
      simp only [e]; exact ih
theorem lookup_noneO {l : List (Str × Option Value)} {x : Str} {ks : List Str} (hp : ∀ p ∈ l, p.1 ∈ ks) (hx : x ∉ ks) : l.lookup x = none := by
  induction l with
  | nil => rfl
  | cons p r ih =>
    rw [List.lookup_cons]
    have hne : (x == p.1) = false := by
      have : x ≠ p.1 := fun e => hx (e ▸ hp p (List.mem_cons_self ..))
      simpa using this
    rw [hne]
    exact ih (fun q hq => hp q (List.mem_cons_of_mem _ hq))
theorem bndO_norm {l : List (Str × Option Value)} (ks : List Str) (h : ∀ p ∈ l, p.1 ∈ ks) : bndO l = bndO (nrmO ks l) := by
  funext x
  unfold bndO
  rw [nrmO_lookup]
  by_cases hx : x ∈ ks
  · rw [if_pos hx]
  · rw [if_neg hx, lookup_noneO h hx]; rfl
theorem bnd_O (l : List (Str × Value)) : bnd l = bndO (l.map fun p => (p.1, some p.2)) := by
  funext x
  unfold bnd bndO
  induction l with
  | nil => rfl
  | cons p r ih =>
    rw [List.map_cons, List.lookup_cons, List.lookup_cons]
    cases (x == p.1) with
    | true => rfl
    | false => exact ih
/-! the bisection's numbers -/
abbrev LC.mid (c : LC) : Nat := midN c.d.p (c.A + c.B)
abbrev LC.setA (c : LC) (D : Addr) (o : Obj) : LC := { c with Da := D, oa := o, A := c.mid }
abbrev LC.setB (c : LC) (D : Addr) (o : Obj) : LC := { c with Db := D, ob := o, B := c.mid }
theorem grid_le {p X : Nat} (hp2 : p ≤ 12) (h : Grid p X) : X ≤ 16384 ∧ bl X ≤ 100 := by
  have h1 := h.2.1
  have h2 : 2 ^ (p + 2) ≤ 2 ^ 14 := Nat.pow_le_pow_right (by omega) (by omega)
  have h3 : X ≤ 16384 := by omega
  exact ⟨h3, by have := bl_le_of_lt (n := X) (k := 15) (by omega); omega⟩
structure WF (c : LC) : Prop where
  gm : Grid c.d.p c.mid
  a0 : 0 < c.A
  b0 : 0 < c.B
  m0 : 0 < c.mid
  ba : bl c.A ≤ 100
  bb : bl c.B ≤ 100
  bm : bl c.mid ≤ 100
  bf : bI (odI (c.mid : Int)) ≤ (c.d.p : Int)
  h1 : c.A ≤ c.mid
  h2 : c.mid ≤ c.B
  h3 : 2 * c.mid ≤ c.A + c.B + 4
  h4 : c.A + c.B ≤ 2 * c.mid + 4
  h5 : 1 ≤ rsh (c.A + c.B) c.d.p
  h6 : (c.mid = c.A ∨ c.mid = c.B) → (c.A < 2 ^ c.d.p ∧ c.B = c.A + 1) ∨ (2 ^ c.d.p ≤ c.A ∧ c.B = c.A + 2) ∨ (2 ^ (c.d.p + 1) ≤ c.A ∧ c.B = c.A + 4)
theorem grid_form {p X : Nat} (hp : 1 ≤ p) (h : Grid p X) : bI (odI (X : Int)) ≤ (p : Int) := by
  rw [odI_def, Int.toNat_natCast, bI_nat]
  have := grid_bits hp h
  omega
theorem wf_of {c : LC} (O : c.Ok) : WF c := by
  have hp1 := O.D.p1
  have hp2 := O.D.p2
  obtain ⟨m1, m2, m3, m4, m5, m6, m7⟩ := mid_facts (show 1 ≤ c.d.p by omega) O.gA O.gB O.lt
  exact ⟨m1, grid_pos O.gA, grid_pos O.gB, grid_pos m1, (grid_le hp2 O.gA).2, (grid_le hp2 O.gB).2, (grid_le hp2 m1).2, grid_form (by omega) m1, m2, m3, m4, m5, m6, m7⟩
theorem ok_setA {c : LC} {D : Addr} {o : Obj} (O : c.Ok) (i : IsSg o 0 c.mid (c.e - c.d.p)) (hlt : c.mid < c.B) (l : c.d.LE c.mid (c.e - c.d.p)) : (c.setA D o).Ok :=
  ⟨O.D, O.H, O.ig, O.iF, i, O.ib, (wf_of O).gm, O.gB, hlt, l, O.lB⟩
theorem ok_setB {c : LC} {D : Addr} {o : Obj} (O : c.Ok) (i : IsSg o 0 c.mid (c.e - c.d.p)) (hlt : c.A < c.mid) (l : ¬ c.d.LE c.mid (c.e - c.d.p)) : (c.setB D o).Ok :=
  ⟨O.D, O.H, O.ig, O.iF, O.ia, i, O.gA, (wf_of O).gm, hlt, O.lA, l⟩
theorem room_setA {c : LC} {D : Addr} {o : Obj} {r : Nat} (W : WF c) (R : Room c.d.p r (c.B - c.A)) (hlt : c.A < c.mid) : Room c.d.p (r + 1) ((c.setA D o).B - (c.setA D o).A) ∧ (c.setA D o).B - (c.setA D o).A < c.B - c.A := by
  have := W.h1
  have := W.h2
  have := W.h3
  have := W.h4
  show Room c.d.p (r + 1) (c.B - c.mid) ∧ c.B - c.mid < c.B - c.A
  exact ⟨room_turn R (by omega) (by omega), by omega⟩
theorem room_setB {c : LC} {D : Addr} {o : Obj} {r : Nat} (W : WF c) (R : Room c.d.p r (c.B - c.A)) (hlt : c.mid < c.B) : Room c.d.p (r + 1) ((c.setB D o).B - (c.setB D o).A) ∧ (c.setB D o).B - (c.setB D o).A < c.B - c.A := by
  have := W.h1
  have := W.h2
  have := W.h3
  have := W.h4
  show Room c.d.p (r + 1) (c.mid - c.A) ∧ c.mid - c.A < c.B - c.A
  exact ⟨room_turn R (by omega) (by omega), by omega⟩
/-- the names while the bisection runs -/
structure Xt where
  x1 : Option Value
  x2 : Option Value
  v1 : Value
  v2 : Value
  v3 : Value
abbrev LC.nmW (c : LC) (l : Addr) (x : Xt) (Dm : Addr) (r : Value) : List (Str × Option Value) :=
  [(Str.ofString "mid", some (.ref Dm)), (Str.ofString "rounds", some r), (Str.ofString "height", x.x2), (Str.ofString "i", x.x1), (Str.ofString "rest", some x.v3), (Str.ofString "q", some x.v2), (Str.ofString "cut", some x.v1), (Str.ofString "b", some (.ref c.Db)), (Str.ofString "a", some (.ref c.Da)), (Str.ofString "up", some c.uv), (Str.ofString "down", some c.dv), (Str.ofString "e", some (.int c.e c.t6)), (Str.ofString "factor", some (.ref c.Df)), (Str.ofString "goal", some (.ref c.Dg)), (Str.ofString "near", some c.nv), (Str.ofString "h", some (.int c.d.h c.t5)), (Str.ofString "c", some (.int c.d.c c.t4)), (Str.ofString "m", some (.int c.d.m c.t3)), (Str.ofString "k", some (.int c.d.k c.t2)), (Str.ofString "p", some (.int c.d.p c.t1)), (Str.ofString "script", some (.ref l))]
abbrev ksW : List Str := Str.ofString "mid" :: Str.ofString "rounds" :: Str.ofString "height" :: Str.ofString "i" :: ksG
def PI (s : Shared) (h₀ : Heap) (L l : Addr) (s' : Shared) : Prop := ∃ (c : LC) (_ : c.Ok) (x : Xt) (r : Nat) (t : Tok) (Dm : Addr) (om : Obj) (h' : Heap) (tk : Nat), s' = St s h' tk ∧ Fr h₀ L h' (bndO (c.nmW l x Dm (.int r t))) ∧ News h₀ L h' ((Dm, om) :: c.led) ∧ IsSg om 0 c.mid (c.e - c.d.p) ∧ Room c.d.p r (c.B - c.A)
section
variable {w : World} {loose : List Str} {mean : ExcName → Option Value} {mg mb : Str → Option Value} {h₀ : Heap} {L fa l : Addr} {cd : Value} {s : Shared} {vs : List Value} {ns : List Int}
   (B : Below callerA h₀ [] h₀) (X : (Mine.hd.heap_39 w.params).In h₀) (T : Top Mine.hd.view_39 loose mean mg mb h₀) (hl : h₀.IsList l vs.toArray) (hi : IntsAre vs ns) (hlen : ns.length ≤ 63)
include B X T hl hi hlen
theorem segI {s1 : Shared} (h1 : PG s h₀ L l s1) :
   wpAny (model PySem.Challenge.rw_aa5011_01.row.prog w) (callerA.deeper (envOf (Str.ofString "law") lawScope L fa cd)) (execs [S18, S19] (envOf (Str.ofString "law") lawScope L fa cd)) (fun f s' => f = .next ∧ PI s h₀ L l s') (fun _ _ => False) s1 := by
  revert X; k_fill; intro X
  obtain ⟨c, O, t, u, z, h', tk, rfl, F, N⟩ := h1
  have W := wf_of O
  have hp1 := O.D.p1
  have hS : 0 < c.A + c.B := by have := W.a0; omega
  delta S18 S19 lawScope S18x S19x lawScopex
  dsimp only
  (try k_fold)
  walk_at "my steps"
  refine Halt.mk ?_
  rename Fr _ _ _ _ => F8
  rename News _ _ _ _ => N8
  k_dflt (refine' t_mid B F8 X N8 T rfl ?hd ?hu ?m1 ?m2 ?m3 O.ia O.ib W.a0 W.b0 W.ba W.bb (by omega) ?_)
  (case hd => ktr_room)
  (case hu => ktr_units)
  (case m1 => walk_at "my mem")
  (case m2 => walk_at "my mem")
  (case m3 => walk_at "my mem")
  intro D9 o9 h9 tk9 P9 F9 N9
  have P10 := mid_mid (by omega) hS W.h5 P9
  clear F8 N8
  (try dsimp only)
  walk_at "my steps"
  rename Fr _ _ _ _ => F8
  rename News _ _ _ _ => N8
  (try simp only [bnd_O, bndO_if] at F8)
  replace F8 := frRe F8 (bndO_norm ksW (by simp))
  exact ⟨c, O, ⟨none, none, _, _, _⟩, 0, _, _, _, _, _, rfl, F8, cb_drop N8 (by walk_at "my sub"), P10, room_start O.gB.2.1⟩
end
/-! L9 -/
local macro_rules | `(tactic| walk_at "exec While BoolOp") => `(tactic| (refine Halt.out ?_))
local macro_rules | `(tactic| walk_at "call ref") => `(tactic| (k_here; (with_reducible show wpAny _ _ (call (Value.ref 212) _) _ _ _); refine Halt.out ?_))
local macro_rules | `(tactic| walk_at "call ref") => `(tactic| (k_here; (with_reducible show wpAny _ _ (call (Value.ref 100) _) _ _ _); refine Halt.out ?_))
local macro_rules | `(tactic| walk_at "call ref") => `(tactic| (k_here; (with_reducible show wpAny _ _ (call (Value.ref 139) _) _ _ _); refine Halt.out ?_))
local macro_rules | `(tactic| walk_at "call ref") => `(tactic| (k_here; (with_reducible show wpAny _ _ (call (Value.ref 93) _) _ _ _); refine Halt.out ?_))
local macro_rules | `(tactic| walk_at "pyIter ref") => `(tactic| (refine Halt.out ?_))
local macro_rules | `(tactic| walk_at "exec For") => `(tactic| (refine Halt.out ?_))
section
variable {w : World} {loose : List Str} {mean : ExcName → Option Value} {mg mb : Str → Option Value}
   {dp un : Nat} {gd : Option (List Code)} {cn : Str} {cs : Scope} {a : Addr} {ccd : Value} {cl : List (Str × Addr)} {outer : List Env} {A₀ : Around} {base h₀ : Heap} {L : Addr} {m : Str → Option Value} {news : List (Addr × Obj)} {s : Shared} {Q E : Value → Shared → Prop}
   (B : Below A₀ base outer h₀) (F : Fr h₀ L s.heap m) (X : (Mine.hd.heap_39 w.params).In h₀) (N : News h₀ L s.heap news) (T : Top Mine.hd.view_39 loose mean mg mb h₀) (hk : cs.kind = .function)
include B F X N T hk
include B F X N T hk
theorem t_ltT {D1 D2 : Nat} {o1 o2 : Obj} {M1 M2 : Nat} {E0 : Int} (hd : dp + 7 < recursionLimit) (hu : un + 500 < cLine)
   (hs : (D1, o1) ∈ news) (ht : (D2, o2) ∈ news) (i1 : IsSg o1 0 M1 E0) (i2 : IsSg o2 0 M2 E0)
   (h1 : 0 < M1) (h2 : 0 < M2) (b1 : bl M1 ≤ 100) (b2 : bl M2 ≤ 100) (hlt : M1 < M2)
   (hret : Ret1 h₀ L m news s Q (fun _ => Value.bool true)) :
   wpAny (model PySem.Challenge.rw_aa5011_01.row.prog w) (ktrTop dp un gd cn cs L a ccd cl outer) (call (.ref 100) [.ref D1, .ref D2]) Q E s := by
  revert X; k_fill; intro X
  refine t_lt B F X N T hk hd hu hs ht i1 i2 h1 h2 b1 b2 ?_
  rw [decide_eq_true hlt]; exact hret
end
def PJ (s : Shared) (h₀ : Heap) (L l : Addr) (s' : Shared) : Prop := ∃ (c : LC) (_ : c.Ok) (x : Xt) (r : Nat) (t : Tok) (Dm : Addr) (om : Obj) (h' : Heap) (tk : Nat), s' = St s h' tk ∧ Fr h₀ L h' (bndO (c.nmW l x Dm (.int r t))) ∧ News h₀ L h' ((Dm, om) :: c.led) ∧ IsSg om 0 c.mid (c.e - c.d.p) ∧ (c.mid = c.A ∨ c.mid = c.B)
theorem isSg_cls {o : Obj} {sg M E : Int} (h : IsSg o sg M E) : o.cls ≠ .type "range_iterator" := by
  obtain ⟨_, _, _, _, _, rfl⟩ := h
  simp
theorem led_cls {c : LC} (O : c.Ok) : ∀ p ∈ c.led, p.2.cls ≠ .type "range_iterator" := by
  intro p hp
  simp only [List.mem_cons, List.not_mem_nil, or_false] at hp
  rcases hp with rfl | rfl | rfl | rfl
  · exact isSg_cls O.ib
  · exact isSg_cls O.ia
  · exact isSg_cls O.iF
  · exact isSg_cls O.ig
theorem cls_cons {o : Obj} {sg M E : Int} {D : Addr} {l : Led} (h : IsSg o sg M E) (hl : ∀ p ∈ l, p.2.cls ≠ .type "range_iterator") : ∀ p ∈ (D, o) :: l, p.2.cls ≠ .type "range_iterator" := by
  intro p hp
  rcases List.mem_cons.mp hp with rfl | hp
  · exact isSg_cls h
  · exact hl p hp
theorem range_k {k : Nat} (h1 : 1 ≤ k) (h2 : k ≤ 4) : Builtin.Range.small 0 (k : Int) 1 = true ∧ Builtin.Range.rangeSize 0 (k : Int) 1 = (k : Int) := by
  rcases kcases h1 h2 with rfl | rfl | rfl | rfl <;> decide
theorem hgt_ok {m x i : Nat} (h1 : 1 ≤ m) (h2 : m ≤ 64) (h3 : 0 < x) (h4 : x ≤ 16384) (h5 : i < 4) : 0 < m * x ^ i ∧ bl (m * x ^ i) ≤ 100 := by
  refine ⟨Nat.mul_pos h1 (Nat.pow_pos h3), ?_⟩
  have hm : bl m ≤ 7 := bl_le_of_lt (by omega)
  have hx : bl x ≤ 15 := bl_le_of_lt (by omega)
  by_cases hi : i = 0
  · subst hi; rw [Nat.pow_zero, Nat.mul_one]; omega
  · have h6 := bl_powk hx i (by omega)
    have h7 := bl_mul hm h6
    omega
/-- the bisection's state -/
def WJ (l : Addr) (n : Nat) (m : Mp) (news : Led) : Prop := ∃ (c : LC) (_ : c.Ok) (x : Xt) (r : Nat) (t : Tok) (Dm : Addr) (om : Obj), m = bndO (c.nmW l x Dm (.int r t)) ∧ news = (Dm, om) :: c.led ∧ IsSg om 0 c.mid (c.e - c.d.p) ∧ Room c.d.p r (c.B - c.A) ∧ n = c.B - c.A
/-- the height's state -/
def HJ (c : LC) (l : Addr) (v1 v2 v3 : Value) (Dm : Addr) (om : Obj) (r : Value) (i : Nat) (m : Mp) (news : Led) : Prop := ∃ (x1 : Option Value) (Dh : Addr) (oh : Obj), m = bndO (c.nmW l ⟨x1, some (.ref Dh), v1, v2, v3⟩ Dm r) ∧ news = (Dh, oh) :: (Dm, om) :: c.led ∧ IsSg oh 0 ((c.d.m * c.mid ^ i : Nat) : Int) (i * (c.e - c.d.p))
section
variable {w : World} {loose : List Str} {mean : ExcName → Option Value} {mg mb : Str → Option Value} {h₀ : Heap} {L fa l : Addr} {cd : Value} {s : Shared} {vs : List Value} {ns : List Int}
   (B : Below callerA h₀ [] h₀) (X : (Mine.hd.heap_39 w.params).In h₀) (T : Top Mine.hd.view_39 loose mean mg mb h₀) (hl : h₀.IsList l vs.toArray) (hi : IntsAre vs ns) (hlen : ns.length ≤ 63)
include B X T hl hi hlen
theorem segJ {s1 : Shared} (h1 : PI s h₀ L l s1) :
   wpAny (model PySem.Challenge.rw_aa5011_01.row.prog w) (callerA.deeper (envOf (Str.ofString "law") lawScope L fa cd)) (execs [S20] (envOf (Str.ofString "law") lawScope L fa cd)) (fun f s' => f = .next ∧ PJ s h₀ L l s') (fun _ _ => False) s1 := by
  revert X; k_fill; intro X
  obtain ⟨c, O, x, r, t, Dm, om, h', tk, rfl, F, N, im, R⟩ := h1
  delta S20 lawScope S20x lawScopex
  dsimp only
  (try k_fold)
  walk_at "my steps"
  refine Halt.mk ?_
  k_dflt (refine' While_inv2 (h₀ := h₀) (L := L) (WJ l) ?f ?n ⟨c, O, x, r, t, Dm, om, rfl, rfl, im, R, rfl⟩ ?_ PassesOwn.never)
  (case f => assumption)
  (case n => assumption)
  clear im R F N O
  rintro n m₁ news₁ h₁ tk₁ F N ⟨c, O, x, r, t, Dm, om, rfl, rfl, im, R, rfl⟩
  have W := wf_of O
  have hp1 := O.D.p1
  have hp2 := O.D.p2
  have hk1 := O.D.k1
  have hk2 := O.D.k2
  (try dsimp only)
  walk_at "my steps"
  refine Halt.mk ?_
  refine r_ne (by walk_at "my get") (by walk_at "my get") im O.ia W.m0 W.a0 (by ktr_units) ?_
  by_cases hA : c.mid = c.A
  · rw [decide_eq_true hA]
    (try dsimp only [Bool.not_true])
    walk_at "my steps"
    rename Fr _ _ _ _ => F8
    rename News _ _ _ _ => N8
    exact ⟨c, O, x, r, t, Dm, om, _, _, rfl, F8, N8, im, Or.inl hA⟩
  rw [decide_eq_false hA]
  (try dsimp only [Bool.not_false])
  walk_at "my steps"
  refine Halt.mk ?_
  refine r_ne (by walk_at "my get") (by walk_at "my get") im O.ib W.m0 W.b0 (by ktr_units) ?_
  by_cases hB : c.mid = c.B
  · rw [decide_eq_true hB]
    (try dsimp only [Bool.not_true])
    walk_at "my steps"
    rename Fr _ _ _ _ => F8
    rename News _ _ _ _ => N8
    exact ⟨c, O, x, r, t, Dm, om, _, _, rfl, F8, N8, im, Or.inr hB⟩
  rw [decide_eq_false hB]
  (try dsimp only [Bool.not_false])
  walk_at "my steps"
  refine Halt.mk ?_
  have hAm : c.A < c.mid := by have := W.h1; omega
  have hmB : c.mid < c.B := by have := W.h2; omega
  have hrk := room_ok R (by omega)
  rename Fr _ _ _ _ => F8
  rename News _ _ _ _ => N8
  k_dflt (refine' t_form B F8 X N8 T rfl ?hd ?hu ?m1 im W.m0 W.bf ?_)
  (case hd => ktr_room)
  (case hu => ktr_units)
  (case m1 => walk_at "my mem")
  clear F8 N8
  intro t9 h9 tk9 F9 N9
  (try dsimp only)
  walk_at "my steps"
  refine Halt.mk ?_
  rename Fr _ _ _ _ => F8
  rename News _ _ _ _ => N8
  k_dflt (refine' t_ltT B F8 X N8 T rfl ?hd ?hu ?m1 ?m2 O.ia im W.a0 W.m0 W.ba W.bm hAm ?_)
  (case hd => ktr_room)
  (case hu => ktr_units)
  (case m1 => walk_at "my mem")
  (case m2 => walk_at "my mem")
  clear F8 N8
  intro t8 h8 tk8 F7 N7
  (try dsimp only)
  walk_at "my steps"
  refine Halt.mk ?_
  rename Fr _ _ _ _ => F8
  rename News _ _ _ _ => N8
  k_dflt (refine' t_ltT B F8 X N8 T rfl ?hd ?hu ?m1 ?m2 im O.ib W.m0 W.b0 W.bm W.bb hmB ?_)
  (case hd => ktr_room)
  (case hu => ktr_units)
  (case m1 => walk_at "my mem")
  (case m2 => walk_at "my mem")
  clear F8 N8
  intro t7 h7 tk7 F6 N6
  (try dsimp only)
  walk_at "my steps"
  refine Halt.mk ?_
  rename Fr _ _ _ _ => F8
  rename News _ _ _ _ => N8
  (try simp only [bndO_if] at F8)
  replace F8 := frRe F8 (bndO_norm ksW (by simp))
  with_unfolding_all (refine For_invVFr (by rfl) (by rfl) F8 (by rfl) (by rfl) ?_ (by intro _; rfl) PassesOwn.never)
  walk_at "my steps"
  refine Halt.mk ?_
  rename IsRange _ _ _ _ _ _ _ _ => R9
  rename Fr _ _ _ _ => F8
  rename News _ _ _ _ => N8
  have N7' : News h₀ L _ ((c.Df, c.of) :: (Dm, om) :: c.led) := cb_drop N8 (by walk_at "my sub")
  k_dflt (refine' iter_range (n := c.d.k) (HJ c l x.v1 x.v2 x.v3 Dm om (.int r t)) rfl R9 (range_k hk1 hk2).1 (range_k hk1 hk2).2 F8 N7' ?j0 ?turn ?done)
  (case j0 => exact ⟨x.x1, c.Df, c.of, rfl, rfl, by rw [Nat.pow_zero, Nat.mul_one, show ((0 : Nat) : Int) * (c.e - c.d.p) = 0 by simp]; exact O.iF⟩)
  (case turn =>
    clear N7' N8 F8 R9
    rintro i ti m₁ news₁ I it h2 tk2 hik ⟨x1, Dh, oh, rfl, rfl, ih⟩ hcls F8 N8
    obtain ⟨g1, g2⟩ := hgt_ok (i := i) O.D.m1 O.D.m2 W.m0 (grid_le hp2 W.gm).1 (by omega)
    (try dsimp only)
    walk_at "my steps"
    refine Halt.mk ?_
    k_dflt (refine' t_mul B F8 X N8 T rfl ?hd ?hu ?m1 ?m2 ih im g1 W.m0 g2 W.bm ?_)
    (case hd => ktr_room)
    (case hu => ktr_units)
    (case m1 => walk_at "my mem")
    (case m2 => walk_at "my mem")
    intro D9 o9 h9 tk9 P9 F9 N9
    clear F8 N8
    (try dsimp only)
    walk_at "my steps"
    rename Fr _ _ _ _ => F8
    rename News _ _ _ _ => N8
    (try simp only [bndO_if] at F8)
    replace F8 := frRe F8 (bndO_norm ksW (by simp))
    have P10 : IsSg o9 0 ((c.d.m * c.mid ^ (i + 1) : Nat) : Int) ((i + 1 : Nat) * (c.e - c.d.p)) := by
      rw [Nat.pow_succ, ← Nat.mul_assoc, Int.natCast_add, Int.add_mul]
      rw [show ((1 : Nat) : Int) * (c.e - c.d.p) = c.e - c.d.p by simp]
      exact P9
    exact ⟨_, _, _, (D9, o9) :: (Dm, om) :: c.led, rfl, F8, cb_drop N8 (by walk_at "my sub"), cls_cons P10 (cls_cons im (led_cls O)), _, D9, o9, rfl, rfl, P10⟩)
  rintro m₁ news₁ h2 tk2 ⟨x1, Dh, oh, rfl, rfl, ih⟩ F7 N7
  (try dsimp only)
  clear F8 N8 N7'
  walk_at "my steps"
  refine Halt.mk ?_
  obtain ⟨M1, M2, E0, j1, j2, q1, q2, q3, q4, q5⟩ := At.cmp O.D O.H W.m0 W.gm.2.1 ih O.ig
  rename Fr _ _ _ _ => F8
  rename News _ _ _ _ => N8
  k_dflt (refine' t_cmp B F8 X N8 T rfl ?hd ?hu ?m1 ?m2 j1 j2 q1 q2 q3 q4 ?_)
  (case hd => ktr_room)
  (case hu => ktr_units)
  (case m1 => walk_at "my mem")
  (case m2 => walk_at "my mem")
  intro t6 h6 tk6 F6 N6
  clear F8 N8
  (try dsimp only)
  by_cases hc : cmpI M1 M2 > 0
  · have O' := ok_setB (D := Dm) O im hAm (q5.mp hc)
    have W' := wf_of O'
    obtain ⟨R1, R2⟩ := room_setB (D := Dm) (o := om) W R hmB
    walk_at "my steps"
    refine Halt.mk ?_
    rename Fr _ _ _ _ => F8
    rename News _ _ _ _ => N8
    k_dflt (refine' t_mid B F8 X N8 T rfl ?hd ?hu ?m1 ?m2 ?m3 O'.ia O'.ib W'.a0 W'.b0 W'.ba W'.bb (by omega) ?_)
    (case hd => ktr_room)
    (case hu => ktr_units)
    (case m1 => walk_at "my mem")
    (case m2 => walk_at "my mem")
    (case m3 => walk_at "my mem")
    intro D9 o9 h9 tk9 P9 F9 N9
    have P10 := mid_mid (show 1 ≤ c.d.p by omega) (Nat.add_pos_left W'.a0 _) W'.h5 P9
    clear F8 N8
    (try dsimp only)
    walk_at "my steps"
    rename Fr _ _ _ _ => F8
    rename News _ _ _ _ => N8
    (try simp only [bndO_if] at F8)
    replace F8 := frRe F8 (bndO_norm ksW (by simp))
    exact ⟨_, _, _, (D9, o9) :: (c.setB Dm om).led, _, rfl, F8, cb_drop N8 (by walk_at "my sub"), R2, c.setB Dm om, O', ⟨_, _, _, _, _⟩, r + 1, _, D9, o9, rfl, rfl, P10, R1, rfl⟩
  · have O' := ok_setA (D := Dm) O im hmB (Classical.not_not.mp (fun x => hc (q5.mpr x)))
    have W' := wf_of O'
    obtain ⟨R1, R2⟩ := room_setA (D := Dm) (o := om) W R hAm
    walk_at "my steps"
    refine Halt.mk ?_
    rename Fr _ _ _ _ => F8
    rename News _ _ _ _ => N8
    k_dflt (refine' t_mid B F8 X N8 T rfl ?hd ?hu ?m1 ?m2 ?m3 O'.ia O'.ib W'.a0 W'.b0 W'.ba W'.bb (by omega) ?_)
    (case hd => ktr_room)
    (case hu => ktr_units)
    (case m1 => walk_at "my mem")
    (case m2 => walk_at "my mem")
    (case m3 => walk_at "my mem")
    intro D9 o9 h9 tk9 P9 F9 N9
    have P10 := mid_mid (show 1 ≤ c.d.p by omega) (Nat.add_pos_left W'.a0 _) W'.h5 P9
    clear F8 N8
    (try dsimp only)
    walk_at "my steps"
    rename Fr _ _ _ _ => F8
    rename News _ _ _ _ => N8
    (try simp only [bndO_if] at F8)
    replace F8 := frRe F8 (bndO_norm ksW (by simp))
    exact ⟨_, _, _, (D9, o9) :: (c.setA Dm om).led, _, rfl, F8, cb_drop N8 (by walk_at "my sub"), R2, c.setA Dm om, O', ⟨_, _, _, _, _⟩, r + 1, _, D9, o9, rfl, rfl, P10, R1, rfl⟩
end
/-! L10 -/
abbrev LC.v (c : LC) : Int := c.e - ((c.d.p - 1 : Nat) : Int)
abbrev LC.nmV (c : LC) (l : Addr) (x : Xt) (Dm : Addr) (r own : Value) (t : Tok) : List (Str × Option Value) :=
  [(Str.ofString "own", some own), (Str.ofString "mid", some (.ref Dm)), (Str.ofString "rounds", some r), (Str.ofString "height", x.x2), (Str.ofString "i", x.x1), (Str.ofString "rest", some x.v3), (Str.ofString "q", some x.v2), (Str.ofString "cut", some x.v1), (Str.ofString "b", some (.ref c.Db)), (Str.ofString "a", some (.ref c.Da)), (Str.ofString "up", some c.uv), (Str.ofString "down", some c.dv), (Str.ofString "e", some (.int c.v t)), (Str.ofString "factor", some (.ref c.Df)), (Str.ofString "goal", some (.ref c.Dg)), (Str.ofString "near", some c.nv), (Str.ofString "h", some (.int c.d.h c.t5)), (Str.ofString "c", some (.int c.d.c c.t4)), (Str.ofString "m", some (.int c.d.m c.t3)), (Str.ofString "k", some (.int c.d.k c.t2)), (Str.ofString "p", some (.int c.d.p c.t1)), (Str.ofString "script", some (.ref l))]
abbrev ksV : List Str := Str.ofString "own" :: ksW
theorem range_p {p : Nat} (h1 : 5 ≤ p) (h2 : p ≤ 12) : Builtin.Range.small ((p : Int) - 1) (-1) (-1) = true ∧ Builtin.Range.rangeSize ((p : Int) - 1) (-1) (-1) = (p : Int) := by
  have h : p = 5 ∨ p = 6 ∨ p = 7 ∨ p = 8 ∨ p = 9 ∨ p = 10 ∨ p = 11 ∨ p = 12 := by omega
  rcases h with rfl | rfl | rfl | rfl | rfl | rfl | rfl | rfl <;> decide
theorem side_pre {d : Dat} (D : d.Ok) {x : Nat} (hx : x < 16384) : bI (d.m : Int) ≤ 100 ∧ bI (x : Int) ≤ 100 ∧ bI (d.c : Int) ≤ 100 ∧ bI (pw (x : Int) (d.k : Int)) ≤ 100 ∧ bI ((d.m : Int) * pw (x : Int) (d.k : Int)) ≤ 200 ∧ bI (d.k : Int) ≤ 100 := by
  have e : pw (x : Int) (d.k : Int) = ((x ^ d.k : Nat) : Int) := by rw [pw_def, Int.toNat_natCast, Int.natCast_pow]
  have hm : bl d.m ≤ 7 := bl_le_of_lt (by have := D.m2; omega)
  have hc : bl d.c ≤ 25 := bl_le_of_lt D.c2
  have hk : bl d.k ≤ 3 := bl_le_of_lt (by have := D.k2; omega)
  have hx' : bl x ≤ 15 := bl_le_of_lt (by omega)
  have h1 := bl_powk hx' d.k D.k1
  have h2 := bl_mul hm h1
  have h3 := D.k2
  rw [e, ← Int.natCast_mul]
  simp only [bI_nat]
  omega
/-- the own search's numbers -/
def OwnI (d : Dat) (v : Int) (own j : Nat) : Prop := d.LE own v ∧ ¬ d.LE (own + 2 ^ j) v
theorem own_lt {d : Dat} (D : d.Ok) {e : Int} (H : d.At e) {own : Nat} (h : d.LE own (e - (d.p - 1 : Nat))) : own < 4096 := by
  have h3 := At.le_one D H (d.p - 1)
  have h4 := D.p1
  have h5 := D.p2
  rw [show d.p - 1 + 1 = d.p by omega] at h3
  have h6 := lt_of_le h h3.2
  have h7 : 2 ^ d.p ≤ 2 ^ 12 := Nat.pow_le_pow_right (by omega) h5
  omega
theorem side_at {d : Dat} (D : d.Ok) {e : Int} (H : d.At e) : (d.k : Int) * (e - (d.p - 1 : Nat)) - d.h ≤ 10000 ∧ -10000 ≤ (d.k : Int) * (e - (d.p - 1 : Nat)) - d.h ∧ bI (e - (d.p - 1 : Nat)) ≤ 100 := by
  have h1 := At.low D H (d.p - 1) (by omega)
  have h2 := At.bounds D H
  have h3 := D.p2
  refine ⟨by omega, by omega, ?_⟩
  exact Int.le_trans (bI_small (by omega) (by omega)) (by omega)
def PK (s : Shared) (h₀ : Heap) (L l : Addr) (s' : Shared) : Prop := ∃ (c : LC) (_ : c.Ok) (x : Xt) (r : Value) (own : Nat) (t t' : Tok) (Dm : Addr) (om : Obj) (h' : Heap) (tk : Nat), s' = St s h' tk ∧ Fr h₀ L h' (bndO (c.nmV l x Dm r (.int own t) t')) ∧ News h₀ L h' ((Dm, om) :: c.led) ∧ IsSg om 0 c.mid (c.e - c.d.p) ∧ (c.mid = c.A ∨ c.mid = c.B) ∧ c.d.LE own c.v ∧ ¬ c.d.LE (own + 1) c.v
def OJ (c : LC) (l : Addr) (x2 : Option Value) (v1 v2 v3 : Value) (Dm : Addr) (om : Obj) (r : Value) (i : Nat) (m : Mp) (news : Led) : Prop := ∃ (x1 : Option Value) (own : Nat) (t t' : Tok), m = bndO (c.nmV l ⟨x1, x2, v1, v2, v3⟩ Dm r (.int own t) t') ∧ news = (Dm, om) :: c.led ∧ OwnI c.d c.v own (c.d.p - i)
section
variable {w : World} {loose : List Str} {mean : ExcName → Option Value} {mg mb : Str → Option Value} {h₀ : Heap} {L fa l : Addr} {cd : Value} {s : Shared} {vs : List Value} {ns : List Int}
   (B : Below callerA h₀ [] h₀) (X : (Mine.hd.heap_39 w.params).In h₀) (T : Top Mine.hd.view_39 loose mean mg mb h₀) (hl : h₀.IsList l vs.toArray) (hi : IntsAre vs ns) (hlen : ns.length ≤ 63)
include B X T hl hi hlen
theorem segK {s1 : Shared} (h1 : PJ s h₀ L l s1) :
   wpAny (model PySem.Challenge.rw_aa5011_01.row.prog w) (callerA.deeper (envOf (Str.ofString "law") lawScope L fa cd)) (execs [S21, S22, S23] (envOf (Str.ofString "law") lawScope L fa cd)) (fun f s' => f = .next ∧ PK s h₀ L l s') (fun _ _ => False) s1 := by
  revert X; k_fill; intro X
  obtain ⟨c, O, x, r, t, Dm, om, h', tk, rfl, F, N, im, hend⟩ := h1
  have hp1 := O.D.p1
  have hp2 := O.D.p2
  have hk1 := O.D.k1
  have hk2 := O.D.k2
  obtain ⟨g6, g7, g11⟩ := side_at O.D O.H
  have hs0 := own_start O.D O.H
  delta S21 S22 S23 lawScope S21x S22x S23x lawScopex
  dsimp only
  (try k_fold)
  walk_at "my steps"
  refine Halt.mk ?_
  rename Fr _ _ _ _ => F8
  rename News _ _ _ _ => N8
  (try simp only [bndO_if] at F8)
  rw [show c.e - ((c.d.p : Int) - 1) = c.v by show _ = c.e - ((c.d.p - 1 : Nat) : Int); omega] at F8
  replace F8 := frRe F8 (bndO_norm ksV (by simp))
  with_unfolding_all (refine For_invVF F8 (by rfl) (by rfl) ?_ (by intro _; rfl) PassesOwn.never)
  walk_at "my steps"
  refine Halt.mk ?_
  rename IsRange _ _ _ _ _ _ _ _ => R9
  rename Fr _ _ _ _ => F8
  rename News _ _ _ _ => N8
  k_dflt (refine' iter_range (n := c.d.p) (OJ c l x.x2 x.v1 x.v2 x.v3 Dm om (.int r t)) rfl R9 (range_p hp1 hp2).1 (range_p hp1 hp2).2 F8 N8 ?j0 ?turn ?done)
  (case j0 => exact ⟨x.x1, 0, _, _, rfl, rfl, hs0⟩)
  (case turn =>
    rintro i ti m₁ news₁ I it h2 tk2 hik ⟨x1, own, to, te, rfl, rfl, ho⟩ hcls F8 N8
    have ho1 := own_lt O.D O.H ho.1
    obtain ⟨j, hj⟩ : ∃ j, c.d.p - i = j + 1 := ⟨c.d.p - i - 1, by omega⟩
    rw [hj] at ho
    rw [show (c.d.p : Int) - 1 + (i : Int) * (-1) = (j : Int) by omega] at F8
    have hj2 : 2 ^ j ≤ 2 ^ 12 := Nat.pow_le_pow_right (by omega) (by omega)
    have eX : (own : Int) + shl 1 (j : Int) = ((own + 2 ^ j : Nat) : Int) := by
      rw [show shl 1 (j : Int) = ((1 * 2 ^ j : Nat) : Int) from shl_nat (a := 1), Nat.one_mul, Int.natCast_add]
    have sp := side_pre O.D (x := own + 2 ^ j) (by omega)
    rw [← eX] at sp
    obtain ⟨g3, g4, g5, g8, g9, g10⟩ := sp
    have hb1 : bI 1 + (j : Int) ≤ 100000 := by rw [bI1]; omega
    have hsl := @side_le c.d.m c.d.k c.d.c c.d.h (own + 2 ^ j) c.v
    rw [← eX] at hsl
    by_cases hc : sideI c.d.m ((own : Int) + shl 1 (j : Int)) c.d.k c.v c.d.c c.d.h ≤ 0
    · (try dsimp only)
      walk_at "my steps"
      rename Fr _ _ _ _ => F8
      rename News _ _ _ _ => N8
      (try simp only [bndO_if] at F8)
      rw [eX] at F8
      replace F8 := frRe F8 (bndO_norm ksV (by simp))
      exact ⟨_, _, _, (Dm, om) :: c.led, rfl, F8, N8, cls_cons im (led_cls O), some (.int (j : Int) ti), own + 2 ^ j, _, te, rfl, rfl, by rw [show c.d.p - (i + 1) = j by omega]; exact ⟨hsl.mp hc, own_turn ho.2 (hsl.mp hc)⟩⟩
    · (try dsimp only)
      walk_at "my steps"
      rename Fr _ _ _ _ => F8
      rename News _ _ _ _ => N8
      (try simp only [bndO_if] at F8)
      replace F8 := frRe F8 (bndO_norm ksV (by simp))
      exact ⟨_, _, _, (Dm, om) :: c.led, rfl, F8, N8, cls_cons im (led_cls O), some (.int (j : Int) ti), own, to, te, rfl, rfl, by rw [show c.d.p - (i + 1) = j by omega]; exact ⟨ho.1, fun y => hc (hsl.mpr y)⟩⟩)
  rintro m₁ news₁ h2 tk2 ⟨x1, own, to, te, rfl, rfl, ho⟩ F7 N7
  (try dsimp only)
  clear F8 N8
  walk_at "my steps"
  rw [show c.d.p - c.d.p = 0 by omega] at ho
  exact ⟨c, O, _, _, own, _, _, Dm, om, _, _, rfl, F7, N7, im, hend, ho.1, ho.2⟩
end
/-! L11 -/
theorem one_delta {o : Obj} {p own : Nat} {v : Int} (hp : 1 ≤ p) (x : IsSg o 0 (rdI 1 ((own + 1 - own : Nat) : Int) p) (v + shI ((own + 1 - own : Nat) : Int) p)) : IsSg o 0 1 v := by
  rw [show own + 1 - own = 1 by omega] at x
  have h1 := bI1
  obtain ⟨e1, e2⟩ := @rdI_id 1 1 (p : Int) (by omega) (by omega) (by rw [h1]; omega)
  rw [show ((1 : Nat) : Int) = 1 from rfl, e1, e2, Int.add_zero] at x
  exact x
theorem own_bits {own : Nat} (h : own < 4096) : bI (own : Int) ≤ 500 ∧ bI ((own : Int) + 1) ≤ 500 ∧ bl own ≤ 100 ∧ bl (own + 1) ≤ 100 := by
  have h1 := bl_le_of_lt (n := own) (k := 13) (by omega)
  have h2 := bl_le_of_lt (n := own + 1) (k := 13) (by omega)
  rw [show (own : Int) + 1 = ((own + 1 : Nat) : Int) by omega]
  simp only [bI_nat]
  omega
theorem odI_two {a b p : Nat} (ha : 0 < b) (h : a = b * 2) (x : bI (odI (a : Int)) ≤ (p : Int)) : bI (odI (b : Int)) ≤ (p : Int) := by
  rw [odI_def, Int.toNat_natCast] at x ⊢
  rw [show a = b * 2 ^ 1 by omega, od_shift ha] at x
  exact x
theorem sg_two {o : Obj} {a b : Nat} {e : Int} {p : Nat} (hp : 1 ≤ p) (hb : 0 < b) (h : a = b * 2) (x : IsSg o 0 (a : Int) (e - p)) : IsSg o 0 (b : Int) (e - ((p - 1 : Nat) : Int)) := by
  have := (@isSg_shift o 0 (e - p) b hb 1).mp (by rw [show b * 2 ^ 1 = a by omega]; exact x)
  rw [show e - (p : Int) + ((1 : Nat) : Int) = e - ((p - 1 : Nat) : Int) by omega] at this
  exact this
/-- behind the checks of a and b -/
structure FL (d : Dat) (e : Int) (own : Nat) (om og of oa ob : Obj) : Prop where
  D : d.Ok
  H : d.At e
  l1 : d.LE own (e - ((d.p - 1 : Nat) : Int))
  l2 : ¬ d.LE (own + 1) (e - ((d.p - 1 : Nat) : Int))
  o0 : 0 < own
  o1 : own < 4096
  r1 : 2 ^ (d.p - 1) ≤ own
  r2 : own < 2 ^ d.p
  ig : IsSg og 0 d.c d.h
  iF : IsSg of 0 d.m 0
  ia : IsSg oa 0 (own : Int) (e - ((d.p - 1 : Nat) : Int))
  ib : IsSg ob 0 ((own + 1 : Nat) : Int) (e - ((d.p - 1 : Nat) : Int))
  im : IsSg om 0 ((own + own % 2 : Nat) : Int) (e - ((d.p - 1 : Nat) : Int))
  fa : bI (odI (own : Int)) ≤ (d.p : Int)
  fb : bI (odI ((own + 1 : Nat) : Int)) ≤ (d.p : Int)
theorem fl_of {c : LC} (O : c.Ok) {own : Nat} {om : Obj} (im : IsSg om 0 c.mid (c.e - c.d.p)) (hend : c.mid = c.A ∨ c.mid = c.B) (l1 : c.d.LE own c.v) (l2 : ¬ c.d.LE (own + 1) c.v) : FL c.d c.e own om c.og c.of c.oa c.ob := by
  have W := wf_of O
  have hp1 := O.D.p1
  obtain ⟨e1, e2, e3⟩ := end_facts O.D O.H O.gA O.gB O.lA O.lB (W.h6 hend) l1 l2
  obtain ⟨r1, r2⟩ := own_range O.D O.H l1 l2
  have h0 : 0 < own := Nat.lt_of_lt_of_le (pos2 _) r1
  exact ⟨O.D, O.H, l1, l2, h0, own_lt O.D O.H l1, r1, r2, O.ig, O.iF, sg_two (by omega) h0 e1 O.ia, sg_two (by omega) (by omega) e2 O.ib, sg_two (by omega) (by omega) e3 im,
    odI_two h0 e1 (grid_form (by omega) O.gA), odI_two (by omega) e2 (grid_form (by omega) O.gB)⟩
abbrev nmL (d : Dat) (e : Int) (own : Nat) (l : Addr) (x : Xt) (r nv uv dv : Value) (Dm Dg Df Da Db : Addr) (t t' t1 t2 t3 t4 t5 : Tok) : List (Str × Option Value) :=
  [(Str.ofString "own", some (.int own t)), (Str.ofString "mid", some (.ref Dm)), (Str.ofString "rounds", some r), (Str.ofString "height", x.x2), (Str.ofString "i", x.x1), (Str.ofString "rest", some x.v3), (Str.ofString "q", some x.v2), (Str.ofString "cut", some x.v1), (Str.ofString "b", some (.ref Db)), (Str.ofString "a", some (.ref Da)), (Str.ofString "up", some uv), (Str.ofString "down", some dv), (Str.ofString "e", some (.int (e - ((d.p - 1 : Nat) : Int)) t')), (Str.ofString "factor", some (.ref Df)), (Str.ofString "goal", some (.ref Dg)), (Str.ofString "near", some nv), (Str.ofString "h", some (.int d.h t5)), (Str.ofString "c", some (.int d.c t4)), (Str.ofString "m", some (.int d.m t3)), (Str.ofString "k", some (.int d.k t2)), (Str.ofString "p", some (.int d.p t1)), (Str.ofString "script", some (.ref l))]
def PL (s : Shared) (h₀ : Heap) (L l : Addr) (s' : Shared) : Prop := ∃ (d : Dat) (e : Int) (own : Nat) (om og of oa ob : Obj) (_ : FL d e own om og of oa ob) (x : Xt) (r nv uv dv : Value) (Dm Dg Df Da Db : Addr) (t t' t1 t2 t3 t4 t5 : Tok) (h' : Heap) (tk : Nat), s' = St s h' tk ∧
  Fr h₀ L h' (bndO (nmL d e own l x r nv uv dv Dm Dg Df Da Db t t' t1 t2 t3 t4 t5)) ∧ News h₀ L h' [(Dm, om), (Db, ob), (Da, oa), (Df, of), (Dg, og)]
theorem pl_of {s : Shared} {h₀ : Heap} {L l : Addr} {s' : Shared} (h : PK s h₀ L l s') : PL s h₀ L l s' := by
  obtain ⟨c, O, x, r, own, t, t', Dm, om, h', tk, rfl, F, N, im, hend, l1, l2⟩ := h
  exact ⟨c.d, c.e, own, om, c.og, c.of, c.oa, c.ob, fl_of O im hend l1 l2, x, r, c.nv, c.uv, c.dv, Dm, c.Dg, c.Df, c.Da, c.Db, t, t', c.t1, c.t2, c.t3, c.t4, c.t5, h', tk, rfl, F, N⟩
section
variable {w : World} {loose : List Str} {mean : ExcName → Option Value} {mg mb : Str → Option Value} {h₀ : Heap} {L fa l : Addr} {cd : Value} {s : Shared} {vs : List Value} {ns : List Int}
   (B : Below callerA h₀ [] h₀) (X : (Mine.hd.heap_39 w.params).In h₀) (T : Top Mine.hd.view_39 loose mean mg mb h₀) (hl : h₀.IsList l vs.toArray) (hi : IntsAre vs ns) (hlen : ns.length ≤ 63)
include B X T hl hi hlen
theorem segL {s1 : Shared} (h1 : PL s h₀ L l s1) :
   wpAny (model PySem.Challenge.rw_aa5011_01.row.prog w) (callerA.deeper (envOf (Str.ofString "law") lawScope L fa cd)) (execs [S24] (envOf (Str.ofString "law") lawScope L fa cd)) (fun f s' => f = .next ∧ PL s h₀ L l s') (fun _ _ => False) s1 := by
  revert X; k_fill; intro X
  obtain ⟨d, e, own, om, og, of, oa, ob, O, x, r, nv, uv, dv, Dm, Dg, Df, Da, Db, t, t', t1, t2, t3, t4, t5, h', tk, rfl, F, N⟩ := h1
  have hp1 := O.D.p1
  have ho0 := O.o0
  obtain ⟨b1, b2, b3, b4⟩ := own_bits O.o1
  have hq1 : (0 : Int) < (own : Int) := by omega
  have hq2 : (0 : Int) < (own : Int) + 1 := by omega
  have ia := O.ia
  have ib := O.ib
  have ib' : IsSg ob 0 ((own : Int) + 1) (e - ((d.p - 1 : Nat) : Int)) := by rw [show (own : Int) + 1 = ((own + 1 : Nat) : Int) by omega]; exact ib
  delta S24 lawScope S24x lawScopex
  dsimp only
  (try k_fold)
  walk_at "my steps"
  refine Halt.mk ?_
  refine r_neF (by walk_at "my get") (by walk_at "my get") ia (by assumption) (by ktr_units) ?_
  walk_at "my steps"
  refine Halt.mk ?_
  refine r_neF (by walk_at "my get") (by walk_at "my get") ib' (by assumption) (by ktr_units) ?_
  walk_at "my steps"
  refine Halt.mk ?_
  rename Fr _ _ _ _ => F8
  rename News _ _ _ _ => N8
  k_dflt (refine' t_delta B F8 X N8 T rfl ?hd ?hu ?m1 ?m2 ?m3 ia ib ho0 (by omega) b3 b4 (by omega) (by omega) ?_)
  (case hd => ktr_room)
  (case hu => ktr_units)
  (case m1 => walk_at "my mem")
  (case m2 => walk_at "my mem")
  (case m3 => walk_at "my mem")
  intro D9 o9 h9 tk9 P9 F9 N9
  have P10 := one_delta (show 1 ≤ d.p by omega) P9
  clear F8 N8
  (try dsimp only)
  walk_at "my steps"
  refine Halt.mk ?_
  refine r_neF (by walk_at "my get") (by walk_at "my get") P10 lit1 (by ktr_units) ?_
  walk_at "my steps"
  rename Fr _ _ _ _ => F8
  rename News _ _ _ _ => N8
  exact ⟨d, e, own, om, og, of, oa, ob, O, x, r, nv, uv, dv, Dm, Dg, Df, Da, Db, t, t', t1, t2, t3, t4, t5, _, _, rfl, F8, cb_drop N8 (by walk_at "my sub")⟩
end
/-! L12 -/
theorem tw_ok {c : Nat} {T v : Int} {t1 t2 t3 t4 : Tok} : IsSg (tup4 c 0 t1 (odI T) t2 (v + tzI T + 1) t3 (bI (odI T)) t4) 0 T (v + 1) := by
  refine ⟨c, t1, t2, t3, t4, ?_⟩
  rw [show v + tzI T + 1 = v + 1 + tzI T by omega]
theorem tw_dn {c : Nat} {T v : Int} {t1 t2 t3 t4 : Tok} : IsSg (tup4 c 0 t1 (odI T) t2 (v + tzI T - 1) t3 (bI (odI T)) t4) 0 T (v - 1) := by
  refine ⟨c, t1, t2, t3, t4, ?_⟩
  rw [show v + tzI T - 1 = v - 1 + tzI T by omega]
abbrev nmM (d : Dat) (e : Int) (own : Nat) (l : Addr) (x : Xt) (r nv uv dv : Value) (Dm Dg Df Da Db Dt Dr Dw : Addr) (t t' t1 t2 t3 t4 t5 : Tok) : List (Str × Option Value) :=
  (Str.ofString "twice", some (.ref Dw)) :: (Str.ofString "more", some (.ref Dr)) :: (Str.ofString "top", some (.ref Dt)) :: nmL d e own l x r nv uv dv Dm Dg Df Da Db t t' t1 t2 t3 t4 t5
abbrev ksM : List Str := Str.ofString "twice" :: Str.ofString "more" :: Str.ofString "top" :: ksV
def PM (s : Shared) (h₀ : Heap) (L l : Addr) (s' : Shared) : Prop := ∃ (d : Dat) (e : Int) (own : Nat) (om og of oa ob orr ow : Obj) (_ : FL d e own om og of oa ob) (x : Xt) (r nv uv dv : Value) (Dm Dg Df Da Db Dt Dr Dw : Addr) (t t' t1 t2 t3 t4 t5 : Tok) (h' : Heap) (tk : Nat), s' = St s h' tk ∧
  Fr h₀ L h' (bndO (nmM d e own l x r nv uv dv Dm Dg Df Da Db Dt Dr Dw t t' t1 t2 t3 t4 t5)) ∧ News h₀ L h' [(Dw, ow), (Dr, orr), (Dm, om), (Db, ob), (Da, oa), (Df, of), (Dg, og)] ∧ IsSg orr 0 (d.c : Int) (d.h + d.k) ∧ IsSg ow 0 ((ansK 1 own (d.EQ own (e - ((d.p - 1 : Nat) : Int))) : Nat) : Int) (e - ((d.p - 1 : Nat) : Int) + 1)
section
variable {w : World} {loose : List Str} {mean : ExcName → Option Value} {mg mb : Str → Option Value} {h₀ : Heap} {L fa l : Addr} {cd : Value} {s : Shared} {vs : List Value} {ns : List Int}
   (B : Below callerA h₀ [] h₀) (X : (Mine.hd.heap_39 w.params).In h₀) (T : Top Mine.hd.view_39 loose mean mg mb h₀) (hl : h₀.IsList l vs.toArray) (hi : IntsAre vs ns) (hlen : ns.length ≤ 63)
include B X T hl hi hlen
theorem segM {s1 : Shared} (h1 : PL s h₀ L l s1) :
   wpAny (model PySem.Challenge.rw_aa5011_01.row.prog w) (callerA.deeper (envOf (Str.ofString "law") lawScope L fa cd)) (execs [S25, S26] (envOf (Str.ofString "law") lawScope L fa cd)) (fun f s' => f = .next ∧ PM s h₀ L l s') (fun _ _ => False) s1 := by
  revert X; k_fill; intro X
  obtain ⟨d, e, own, om, og, of, oa, ob, O, x, r, nv, uv, dv, Dm, Dg, Df, Da, Db, t, t', t1, t2, t3, t4, t5, h', tk, rfl, F, N⟩ := h1
  have hp1 := O.D.p1
  have hk1 := O.D.k1
  have hk2 := O.D.k2
  have hc1 := O.D.c1
  obtain ⟨g6, g7, g11⟩ := side_at O.D O.H
  obtain ⟨g3, g4, g5, g8, g9, g10⟩ := side_pre O.D (x := own) (by have := O.o1; omega)
  have hz := @side_zero d.m d.k d.c d.h own (e - ((d.p - 1 : Nat) : Int))
  delta S25 S26 lawScope S25x S26x lawScopex
  dsimp only
  (try k_fold)
  have hT1 : sideI d.m own d.k (e - ((d.p - 1 : Nat) : Int)) d.c d.h = 0 → ansK 1 own (d.EQ own (e - ((d.p - 1 : Nat) : Int))) = own := fun hq => by unfold ansK; rw [if_neg (by omega), if_pos (hz.mp hq)]
  have hT2 : sideI d.m own d.k (e - ((d.p - 1 : Nat) : Int)) d.c d.h ≠ 0 → ansK 1 own (d.EQ own (e - ((d.p - 1 : Nat) : Int))) = own + 1 := fun hq => by unfold ansK; rw [if_neg (by omega), if_neg (fun x => hq (hz.mpr x))]
  obtain ⟨ca, a1, a2, a3, a4, rfl⟩ := id O.ia
  obtain ⟨cb, b1, b2, b3, b4, rfl⟩ := id O.ib
  walk_at "my steps"
  all_goals (
    rename Fr _ _ _ _ => F8
    rename News _ _ _ _ => N8
    (try simp only [bndO_if] at F8)
    replace F8 := frRe F8 (bndO_norm ksM (by simp))
    first
      | exact ⟨rfl, d, e, own, om, og, of, _, _, _, _, O, x, r, nv, uv, dv, Dm, Dg, Df, Da, Db, _, _, _, t, t', t1, t2, t3, t4, t5, _, _, rfl, F8, cb_drop N8 (by walk_at "my sub"), by assumption, by rw [hT1 (by assumption)]; exact tw_ok⟩
      | exact ⟨d, e, own, om, og, of, _, _, _, _, O, x, r, nv, uv, dv, Dm, Dg, Df, Da, Db, _, _, _, t, t', t1, t2, t3, t4, t5, _, _, rfl, F8, cb_drop N8 (by walk_at "my sub"), by assumption, by rw [hT1 (by assumption)]; exact tw_ok⟩
      | exact ⟨d, e, own, om, og, of, _, _, _, _, O, x, r, nv, uv, dv, Dm, Dg, Df, Da, Db, _, _, _, t, t', t1, t2, t3, t4, t5, _, _, rfl, F8, cb_drop N8 (by walk_at "my sub"), by assumption, by rw [hT2 (by assumption)]; exact tw_ok⟩)
end
/-! L13 -/
local macro_rules | `(tactic| walk_at "call ref") => `(tactic| (k_here; (with_reducible show wpAny _ _ (call (Value.ref 191) _) _ _ _); refine Halt.out ?_))
local macro_rules | `(tactic| walk_at "call ref") => `(tactic| (k_here; (with_reducible show wpAny _ _ (call (Value.ref 198) _) _ _ _); refine Halt.out ?_))
theorem ansK_iff {Y : Nat} {P Q : Prop} [Decidable P] [Decidable Q] (h : P ↔ Q) : ansK 1 Y P = ansK 1 Y Q := by
  unfold ansK
  by_cases hp : P
  · rw [if_pos hp, if_pos (h.mp hp)]
  · rw [if_neg hp, if_neg (fun x => hp (h.mpr x))]
section
variable {w : World} {loose : List Str} {mean : ExcName → Option Value} {mg mb : Str → Option Value} {h₀ : Heap} {L fa l : Addr} {cd : Value} {s : Shared} {vs : List Value} {ns : List Int}
   (B : Below callerA h₀ [] h₀) (X : (Mine.hd.heap_39 w.params).In h₀) (T : Top Mine.hd.view_39 loose mean mg mb h₀) (hl : h₀.IsList l vs.toArray) (hi : IntsAre vs ns) (hlen : ns.length ≤ 63)
include B X T hl hi hlen
theorem segN1 {s1 : Shared} (h1 : PM s h₀ L l s1) :
   wpAny (model PySem.Challenge.rw_aa5011_01.row.prog w) (callerA.deeper (envOf (Str.ofString "law") lawScope L fa cd)) (execs [S27] (envOf (Str.ofString "law") lawScope L fa cd)) (fun f s' => f = .next ∧ PM s h₀ L l s') (fun _ _ => False) s1 := by
  revert X; k_fill; intro X
  obtain ⟨d, e, own, om, og, of, oa, ob, orr, ow, O, x, r, nv, uv, dv, Dm, Dg, Df, Da, Db, Dt, Dr, Dw, t, t', t1, t2, t3, t4, t5, h', tk, rfl, F, N, ir, iw⟩ := h1
  have hp1 := O.D.p1
  have hp2 := O.D.p2
  have hm1 := O.D.m1
  have hm0 : (0 : Int) < (d.m : Int) := by omega
  delta S27 lawScope S27x lawScopex
  dsimp only
  (try k_fold)
  by_cases hk : d.k = 1
  · have hkT : ((d.k : Int) == 1) = true := by rw [hk]; rfl
    have hkI : (d.k : Int) = 1 := by omega
    rw [hkI] at ir
    obtain ⟨ca, a1, a2, a3, a4, rfl⟩ := id O.ia
    walk_at "my steps"
    refine Halt.mk ?_
    rename IsSg _ 0 (d.m : Int) 1 => i4
    obtain ⟨M1, M2, E1, E2, j1, j2, j3, j4, q1, q2, q3, q4, q5, q6, q7, q8⟩ := div_pre O.D O.H hk O.l1 O.l2 O.ig ir O.iF i4
    rename Fr _ _ _ _ => F8
    rename News _ _ _ _ => N8
    k_dflt (refine' t_mdiv B F8 X N8 T rfl ?hd ?hu ?m1 ?m2 ?m3 ?m4 ?m5 ?m6 j1 j2 j3 j4 q1 q2 q3 q4 rfl (by omega) (by omega) q5 O.r1 O.r2 q6 q7 ?_)
    (case hd => ktr_room)
    (case hu => ktr_units)
    (case m1 => walk_at "my mem")
    (case m2 => walk_at "my mem")
    (case m3 => walk_at "my mem")
    (case m4 => walk_at "my mem")
    (case m5 => walk_at "my mem")
    (case m6 => walk_at "my mem")
    intro D9 Da9 Db9 oa9 ob9 c9 h9 tk9 Pa9 Pb9 F9 N9
    rw [ansK_iff q8] at Pb9
    clear F8 N8
    (try dsimp only)
    walk_at "my steps"
    refine Halt.mk ?_
    refine r_neP (by walk_at "my get") (by walk_at "my get") (by walk_at "my get") (by walk_at "my get") (by walk_at "my get") (by walk_at "my get") Pa9 Pb9 tw_dn iw (by ktr_units) ?_
    walk_at "my steps"
    rename Fr _ _ _ _ => F8
    rename News _ _ _ _ => N8
    exact ⟨d, e, own, om, og, of, _, ob, orr, ow, O, x, r, nv, uv, dv, Dm, Dg, Df, Da, Db, Dt, Dr, Dw, t, t', t1, t2, t3, t4, t5, _, _, rfl, F8, cb_drop N8 (by walk_at "my sub"), by rw [hkI]; exact ir, iw⟩
  · have hkI : ¬ (d.k : Int) = 1 := by omega
    have hkF : ((d.k : Int) == 1) = false := by simpa using hkI
    walk_at "my steps"
    rename Fr _ _ _ _ => F8
    rename News _ _ _ _ => N8
    exact ⟨d, e, own, om, og, of, oa, ob, orr, ow, O, x, r, nv, uv, dv, Dm, Dg, Df, Da, Db, Dt, Dr, Dw, t, t', t1, t2, t3, t4, t5, _, _, rfl, F8, N8, ir, iw⟩
end
/-! L14 -/
theorem big_bl {x p : Nat} (hp : p ≤ 12) (h : x ≤ 2 ^ (2 * p) * 4) : bl x ≤ 100 := by
  have h1 : 2 ^ (2 * p) ≤ 2 ^ 24 := Nat.pow_le_pow_right (by omega) (by omega)
  have := bl_le_of_lt (n := x) (k := 30) (by omega)
  omega
theorem big_le {Y p dl : Nat} (h : Y < 2 ^ (2 * p)) (hd : dl ≤ 1) : Y * 2 ^ (dl + 1) ≤ 2 ^ (2 * p) * 4 ∧ (Y + 1) * 2 ^ (dl + 1) ≤ 2 ^ (2 * p) * 4 := by
  have h1 : 2 ^ (dl + 1) ≤ 4 := Nat.pow_le_pow_right (n := 2) (by omega) (show dl + 1 ≤ 2 by omega)
  exact ⟨Nat.mul_le_mul (by omega) h1, Nat.mul_le_mul (by omega) h1⟩
section
variable {w : World} {loose : List Str} {mean : ExcName → Option Value} {mg mb : Str → Option Value} {h₀ : Heap} {L fa l : Addr} {cd : Value} {s : Shared} {vs : List Value} {ns : List Int}
   (B : Below callerA h₀ [] h₀) (X : (Mine.hd.heap_39 w.params).In h₀) (T : Top Mine.hd.view_39 loose mean mg mb h₀) (hl : h₀.IsList l vs.toArray) (hi : IntsAre vs ns) (hlen : ns.length ≤ 63)
include B X T hl hi hlen
theorem segN2 {s1 : Shared} (h1 : PM s h₀ L l s1) :
   wpAny (model PySem.Challenge.rw_aa5011_01.row.prog w) (callerA.deeper (envOf (Str.ofString "law") lawScope L fa cd)) (execs [S28] (envOf (Str.ofString "law") lawScope L fa cd)) (fun f s' => f = .next ∧ PM s h₀ L l s') (fun _ _ => False) s1 := by
  revert X; k_fill; intro X
  obtain ⟨d, e, own, om, og, of, oa, ob, orr, ow, O, x, r, nv, uv, dv, Dm, Dg, Df, Da, Db, Dt, Dr, Dw, t, t', t1, t2, t3, t4, t5, h', tk, rfl, F, N, ir, iw⟩ := h1
  have hp1 := O.D.p1
  have hp2 := O.D.p2
  delta S28 lawScope S28x lawScopex
  dsimp only
  (try k_fold)
  by_cases hk : d.k = 2
  · have hkT : ((d.k : Int) == 2) = true := by rw [hk]; rfl
    have hkI : (d.k : Int) = 2 := by omega
    rw [hkI] at ir
    walk_at "my steps"
    refine Halt.mk ?_
    obtain ⟨M, g, E1, E2, j1, j2, q1, q2, q3, q4, q5, q6, q7⟩ := sqrt_pre O.D O.H hk O.l1 O.l2 O.ig ir
    rename Fr _ _ _ _ => F8
    rename News _ _ _ _ => N8
    k_dflt (refine' t_msqrt B F8 X N8 T rfl ?hd ?hu ?m1 ?m2 ?m3 j1 j2 q1 q1 q2 q2 rfl (by omega) (by omega) q3 q4 O.r1 O.r2 O.r1 O.r2 q5 q6 q5 q6 ?_)
    (case hd => ktr_room)
    (case hu => ktr_units)
    (case m1 => walk_at "my mem")
    (case m2 => walk_at "my mem")
    (case m3 => walk_at "my mem")
    intro D9 Da9 Db9 oa9 ob9 c9 h9 tk9 Pa9 Pb9 F9 N9
    rw [ansK_iff q7] at Pb9
    clear F8 N8
    (try dsimp only)
    walk_at "my steps"
    refine Halt.mk ?_
    refine r_neP (by walk_at "my get") (by walk_at "my get") (by walk_at "my get") (by walk_at "my get") (by walk_at "my get") (by walk_at "my get") Pa9 Pb9 O.ia iw (by ktr_units) ?_
    walk_at "my steps"
    rename Fr _ _ _ _ => F8
    rename News _ _ _ _ => N8
    exact ⟨d, e, own, om, og, of, oa, ob, orr, ow, O, x, r, nv, uv, dv, Dm, Dg, Df, Da, Db, Dt, Dr, Dw, t, t', t1, t2, t3, t4, t5, _, _, rfl, F8, cb_drop N8 (by walk_at "my sub"), by rw [hkI]; exact ir, iw⟩
  · have hkI : ¬ (d.k : Int) = 2 := by omega
    have hkF : ((d.k : Int) == 2) = false := by simpa using hkI
    walk_at "my steps"
    rename Fr _ _ _ _ => F8
    rename News _ _ _ _ => N8
    exact ⟨d, e, own, om, og, of, oa, ob, orr, ow, O, x, r, nv, uv, dv, Dm, Dg, Df, Da, Db, Dt, Dr, Dw, t, t', t1, t2, t3, t4, t5, _, _, rfl, F8, N8, ir, iw⟩
theorem segN3 {s1 : Shared} (h1 : PM s h₀ L l s1) :
   wpAny (model PySem.Challenge.rw_aa5011_01.row.prog w) (callerA.deeper (envOf (Str.ofString "law") lawScope L fa cd)) (execs [S29] (envOf (Str.ofString "law") lawScope L fa cd)) (fun f s' => f = .next ∧ PM s h₀ L l s') (fun _ _ => False) s1 := by
  revert X; k_fill; intro X
  obtain ⟨d, e, own, om, og, of, oa, ob, orr, ow, O, x, r, nv, uv, dv, Dm, Dg, Df, Da, Db, Dt, Dr, Dw, t, t', t1, t2, t3, t4, t5, h', tk, rfl, F, N, ir, iw⟩ := h1
  have hp1 := O.D.p1
  have hp2 := O.D.p2
  delta S29 lawScope S29x lawScopex
  dsimp only
  (try k_fold)
  by_cases hk : d.k = 4
  · have hkT : ((d.k : Int) == 4) = true := by rw [hk]; rfl
    have hkI : (d.k : Int) = 4 := by omega
    rw [hkI] at ir
    have hb2 : bI 2 ≤ 100000 := by decide +kernel
    have hbp : bI (d.p : Int) ≤ 100000 := Int.le_trans (bI_small (by omega) (by omega)) (by omega)
    walk_at "my steps"
    refine Halt.mk ?_
    obtain ⟨M, g, Y, dl, E1, E2, j1, j2, q1, q2, q3, q4, q5, q6, q7, q8, q9, q10, q11, q12⟩ := quart_pre O.D O.H hk O.l1 O.l2 O.ig ir
    have hY0 : 0 < Y := Nat.lt_of_lt_of_le (pos2 _) q6
    obtain ⟨w1, w2⟩ := big_le (p := d.p) q7 q3
    rename Fr _ _ _ _ => F8
    rename News _ _ _ _ => N8
    k_dflt (refine' t_msqrt (p := 2 * d.p) B F8 X N8 T rfl ?hd ?hu ?m1 ?m2 ?m3 j1 j2 q1 q1 q2 q2 (by omega) (by omega) (by omega) q4 q5 q6 q7 q6 q7 q8 q9 q8 q9 ?_)
    (case hd => ktr_room)
    (case hu => ktr_units)
    (case m1 => walk_at "my mem")
    (case m2 => walk_at "my mem")
    (case m3 => walk_at "my mem")
    intro D9 Da9 Db9 oa9 ob9 c9 h9 tk9 Pa9 Pb9 F9 N9
    clear F8 N8
    obtain ⟨M1, M2, Y2, g2, F1, F2, G2, k1, k2, v1, v2, v3, v4, v5, v6, v7, v8, v9, v10, v11, v12, v13⟩ := quart_out (show 1 ≤ d.p by omega) hY0 O.r1 O.r2 q10 q11 q12 Pa9 Pb9
    (try dsimp only)
    walk_at "my steps"
    refine Halt.mk ?_
    rename Fr _ _ _ _ => F8
    rename News _ _ _ _ => N8
    k_dflt (refine' t_msqrt (p := d.p) B F8 X N8 T rfl ?hd ?hu ?m1 ?m2 ?m3 k1 k2 v1 v2 (big_bl hp2 (Nat.le_trans v3 w1)) (big_bl hp2 (Nat.le_trans v4 w2)) rfl (by omega) (by omega) v5 v6 O.r1 O.r2 v9 v10 v7 v8 v11 v12 ?_)
    (case hd => ktr_room)
    (case hu => ktr_units)
    (case m1 => walk_at "my mem")
    (case m2 => walk_at "my mem")
    (case m3 => walk_at "my mem")
    intro D8 Da8 Db8 oa8 ob8 c8 h8 tk8 Pa8 Pb8 F7 N7
    have Pb7 := v13 _ Pb8
    clear F8 N8
    (try dsimp only)
    walk_at "my steps"
    refine Halt.mk ?_
    refine r_neP (by walk_at "my get") (by walk_at "my get") (by walk_at "my get") (by walk_at "my get") (by walk_at "my get") (by walk_at "my get") Pa8 Pb7 O.ia iw (by ktr_units) ?_
    walk_at "my steps"
    rename Fr _ _ _ _ => F8
    rename News _ _ _ _ => N8
    exact ⟨d, e, own, om, og, of, oa, ob, orr, ow, O, x, r, nv, uv, dv, Dm, Dg, Df, Da, Db, Dt, Dr, Dw, t, t', t1, t2, t3, t4, t5, _, _, rfl, F8, cb_drop N8 (by walk_at "my sub"), by rw [hkI]; exact ir, iw⟩
  · have hkI : ¬ (d.k : Int) = 4 := by omega
    have hkF : ((d.k : Int) == 4) = false := by simpa using hkI
    walk_at "my steps"
    rename Fr _ _ _ _ => F8
    rename News _ _ _ _ => N8
    exact ⟨d, e, own, om, og, of, oa, ob, orr, ow, O, x, r, nv, uv, dv, Dm, Dg, Df, Da, Db, Dt, Dr, Dw, t, t', t1, t2, t3, t4, t5, _, _, rfl, F8, N8, ir, iw⟩
end
/-! L15 -/
def PZ (s : Shared) (h₀ : Heap) (L : Addr) (s' : Shared) : Prop := ∃ (h' : Heap) (tk : Nat) (m : Mp), s' = St s h' tk ∧ Fr h₀ L h' m
section
variable {w : World} {loose : List Str} {mean : ExcName → Option Value} {mg mb : Str → Option Value} {h₀ : Heap} {L fa l : Addr} {cd : Value} {s : Shared} {vs : List Value} {ns : List Int}
   (B : Below callerA h₀ [] h₀) (X : (Mine.hd.heap_39 w.params).In h₀) (T : Top Mine.hd.view_39 loose mean mg mb h₀) (hl : h₀.IsList l vs.toArray) (hi : IntsAre vs ns) (hlen : ns.length ≤ 63)
include B X T hl hi hlen
theorem segO {s1 : Shared} (h1 : PM s h₀ L l s1) :
   wpAny (model PySem.Challenge.rw_aa5011_01.row.prog w) (callerA.deeper (envOf (Str.ofString "law") lawScope L fa cd)) (execs [S30] (envOf (Str.ofString "law") lawScope L fa cd)) (fun f s' => f = .ret (.bool true) ∧ PZ s h₀ L s') (fun _ _ => False) s1 := by
  revert X; k_fill; intro X
  obtain ⟨d, e, own, om, og, of, oa, ob, orr, ow, O, x, r, nv, uv, dv, Dm, Dg, Df, Da, Db, Dt, Dr, Dw, t, t', t1, t2, t3, t4, t5, h', tk, rfl, F, N, ir, iw⟩ := h1
  have ho0 := O.o0
  have ho1 := O.o1
  have hq1 : (0 : Int) < (own : Int) + (own : Int) % 2 := by omega
  have hq2 : bI ((own : Int) + (own : Int) % 2) ≤ 500 := Int.le_trans (bI_small (by omega) (by omega)) (by omega)
  have im : IsSg om 0 ((own : Int) + (own : Int) % 2) (e - ((d.p - 1 : Nat) : Int)) := by
    have := O.im
    rw [show ((own + own % 2 : Nat) : Int) = (own : Int) + (own : Int) % 2 by omega] at this
    exact this
  delta S30 lawScope S30x lawScopex
  dsimp only
  (try k_fold)
  walk_at "my steps"
  refine Halt.mk ?_
  rename Fr _ _ _ _ => F8
  rename News _ _ _ _ => N8
  k_dflt (refine' t_form B F8 X N8 T rfl ?hd ?hu ?m1 O.ia ho0 O.fa ?_)
  (case hd => ktr_room)
  (case hu => ktr_units)
  (case m1 => walk_at "my mem")
  clear F8 N8
  intro t9 h9 tk9 F9 N9
  (try dsimp only)
  walk_at "my steps"
  refine Halt.mk ?_
  rename Fr _ _ _ _ => F8
  rename News _ _ _ _ => N8
  k_dflt (refine' t_form B F8 X N8 T rfl ?hd ?hu ?m1 O.ib (Nat.succ_pos _) O.fb ?_)
  (case hd => ktr_room)
  (case hu => ktr_units)
  (case m1 => walk_at "my mem")
  clear F8 N8
  intro t8 h8 tk8 F7 N7
  (try dsimp only)
  walk_at "my steps"
  refine Halt.mk ?_
  refine r_eqT (by walk_at "my get") (by walk_at "my get") im (by assumption) (by ktr_units) ?_
  walk_at "my steps"
  rename Fr _ _ _ _ => F8
  exact ⟨_, _, _, rfl, F8⟩
end
/-! L16 -/
section
variable {w : World} {loose : List Str} {mean : ExcName → Option Value} {mg mb : Str → Option Value} {h₀ : Heap} {L fa l : Addr} {cd : Value} {s : Shared} {vs : List Value} {ns : List Int}
   (B : Below callerA h₀ [] h₀) (X : (Mine.hd.heap_39 w.params).In h₀) (T : Top Mine.hd.view_39 loose mean mg mb h₀) (hl : h₀.IsList l vs.toArray) (hi : IntsAre vs ns) (hlen : ns.length ≤ 63)
include B X T hl hi hlen
theorem lawRun {h : Heap} {tk : Nat} (F : Fr h₀ L h (bnd [(Str.ofString "script", .ref l)])) (N : News h₀ L h []) :
   wpAny (model PySem.Challenge.rw_aa5011_01.row.prog w) (callerA.deeper (envOf (Str.ofString "law") lawScope L fa cd)) (execs [S0, S1, S2, S3, S4, S5, S6, S7, S8, S9, S10, S11, S12, S13, S14, S15, S16, S17, S18, S19, S20, S21, S22, S23, S24, S25, S26, S27, S28, S29, S30] (envOf (Str.ofString "law") lawScope L fa cd)) (fun f s' => f = .ret (.bool true) ∧ PZ s h₀ L s') (fun _ _ => False) (St s h tk) := by
  refine execs_app (l1 := [S0, S1, S2, S3, S4, S5]) (PA s h₀ L l) (segA B X T hl hi hlen F N) fun s2 h2 => ?_
  refine execs_app (l1 := [S6]) (PB s h₀ L l) (segB B X T hl hi hlen h2) fun s3 h3 => ?_
  refine execs_app (l1 := [S7, S8, S9]) (PC s h₀ L l) (segC B X T h3) fun s4 h4 => ?_
  refine execs_app (l1 := [S10, S11]) (PD s h₀ L l) (segD B X T hl hi hlen h4) fun s5 h5 => ?_
  refine execs_app (l1 := [S12, S13]) (PD s h₀ L l) (segE B X T hl hi hlen h5) fun s6 h6 => ?_
  refine execs_app (l1 := [S14]) (PF s h₀ L l) (segF B X T hl hi hlen (pe_of h6)) fun s7 h7 => ?_
  refine execs_app (l1 := [S15, S16]) (PG s h₀ L l) (segG B X T hl hi hlen h7) fun s8 h8 => ?_
  refine execs_app (l1 := [S17]) (PG s h₀ L l) (segH B X T hl hi hlen h8) fun s9 h9 => ?_
  refine execs_app (l1 := [S18, S19]) (PI s h₀ L l) (segI B X T hl hi hlen h9) fun s10 h10 => ?_
  refine execs_app (l1 := [S20]) (PJ s h₀ L l) (segJ B X T hl hi hlen h10) fun s11 h11 => ?_
  refine execs_app (l1 := [S21, S22, S23]) (PK s h₀ L l) (segK B X T hl hi hlen h11) fun s12 h12 => ?_
  refine execs_app (l1 := [S24]) (PL s h₀ L l) (segL B X T hl hi hlen (pl_of h12)) fun s13 h13 => ?_
  refine execs_app (l1 := [S25, S26]) (PM s h₀ L l) (segM B X T hl hi hlen h13) fun s14 h14 => ?_
  refine execs_app (l1 := [S27]) (PM s h₀ L l) (segN1 B X T hl hi hlen h14) fun s15 h15 => ?_
  refine execs_app (l1 := [S28]) (PM s h₀ L l) (segN2 B X T hl hi hlen h15) fun s16 h16 => ?_
  refine execs_app (l1 := [S29]) (PM s h₀ L l) (segN3 B X T hl hi hlen h16) fun s17 h17 => ?_
  exact segO B X T hl hi hlen h17
end
end Mine
theorem PySem.Challenge.cw_aa5011_01_holds : PySem.Challenge.rw_aa5011_01.Holds :=
  Mine.hd (by
  k_fill
  intro w s₀ s₁ mg mb G Y fa o pm cd doc dV kV ho hd hcd hD hmg hg args vals as hpre hlay hrd hwl hlo
  have KX := kIn_of Y
  k_behind G ho hd hcd hD hmg hpre hlay hrd hwl hlo cd
  rename Fr _ _ _ _ => F9
  rename News _ _ _ [] => N9
  rename Below _ _ _ _ => B9
  rename Top _ _ _ _ _ _ => T9
  rename IntsAre _ _ => I9
  rename Heap.IsList _ _ _ => L9
  refine' wpAny_mono (Mine.lawRun (s := s₁) B9 KX T9 L9 I9 ?zl F9 N9) ?zq ?ze
  (case zl => omega)
  (case ze => exact fun _ _ h => h.elim)
  (case zq =>
    rintro f s' ⟨rfl, h', tk, m, rfl, F8⟩
    wrow_close))
