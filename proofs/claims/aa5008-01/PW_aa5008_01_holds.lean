import PyProof.Rows.All
import Wide.All
import OpenK.AllK
import Wide.FinOn
import PySem.Challenge.RW_aa5008_01
set_option Elab.async false
set_option rowWalk.seconds 0
set_option linter.unusedVariables false
set_option linter.unusedSimpArgs false
-- HD
namespace Mine
open PySem PySem.W PyProof.Rows
set_option maxRecDepth 100000
set_option maxHeartbeats 8000000
open_top hd for PySem.Challenge.rw_aa5008_01
-- open_top leaves the walker in another way of walking: set it back
theorem walk_off : True := by
  w_top off
  trivial
end Mine

-- M0
namespace Mine
open PySem

/-- four ints, as mpmath keeps a number: sign, mantissa, exponent, its bits -/
structure T4 where
  s : Int
  m : Int
  e : Int
  b : Int

/-- the number of binary places -/
def bl (n : Nat) : Nat := if n = 0 then 0 else n.log2 + 1
/-- trailing zeros -/
def tz (n : Nat) : Nat := if h : n = 0 then 0 else if n % 2 = 1 then 0 else tz (n / 2) + 1
termination_by n
decreasing_by omega
def od (n : Nat) : Nat := n / 2 ^ tz n
/-- sign, mantissa, exponent without trailing zeros -/
def nf (sg : Int) (n : Nat) (ex : Int) : T4 := if n = 0 then ⟨0, 0, 0, 0⟩ else ⟨sg, (od n : Nat), ex + (tz n : Nat), (bl (od n) : Nat)⟩
/-- the nearest number of p places, halves to the even one -/
def rn (p n : Nat) : Nat :=
  if bl n ≤ p then n
  else if 2 ^ (bl n - p) < 2 * (n % 2 ^ (bl n - p)) ∨ (2 * (n % 2 ^ (bl n - p)) = 2 ^ (bl n - p) ∧ n / 2 ^ (bl n - p) % 2 = 1) then (n / 2 ^ (bl n - p) + 1) * 2 ^ (bl n - p)
  else n / 2 ^ (bl n - p) * 2 ^ (bl n - p)
def nfI (sg man ex pr : Int) : T4 := nf sg (rn pr.toNat man.natAbs) ex

theorem intBits_bl (x : Int) : Builtin.Int.intBits x = bl x.natAbs := by
  unfold Builtin.Int.intBits bl
  by_cases h : x = 0
  · simp [h]
  · have h1 : (x == 0) = false := by simpa using h
    have h2 : x.natAbs ≠ 0 := by omega
    simp [h1, h2]
theorem bl_zero : bl 0 = 0 := rfl
theorem bl_lt (n : Nat) : n < 2 ^ bl n := by
  unfold bl
  by_cases h : n = 0
  · simp [h]
  · rw [if_neg h]; exact Nat.lt_log2_self
theorem bl_ge {n : Nat} (h : n ≠ 0) : 2 ^ (bl n - 1) ≤ n := by
  unfold bl
  rw [if_neg h, Nat.add_sub_cancel]
  exact Nat.log2_self_le h
theorem bl_pos {n : Nat} (h : n ≠ 0) : 0 < bl n := by unfold bl; rw [if_neg h]; omega
theorem bl_le_of_lt {n k : Nat} (h : n < 2 ^ k) : bl n ≤ k := by
  unfold bl
  by_cases h0 : n = 0
  · simp [h0]
  · rw [if_neg h0]; have := (Nat.log2_lt h0).mpr h; omega
theorem lt_of_bl_le {n k : Nat} (h : bl n ≤ k) : n < 2 ^ k := Nat.lt_of_lt_of_le (bl_lt n) (Nat.pow_le_pow_right (by decide) h)
theorem bl_le_iff {n k : Nat} : bl n ≤ k ↔ n < 2 ^ k := ⟨lt_of_bl_le, bl_le_of_lt⟩
theorem le_bl_of_ge {n k : Nat} (h : 2 ^ k ≤ n) : k + 1 ≤ bl n := by
  refine Nat.not_lt.mp fun hc => ?_
  have := lt_of_bl_le (n := n) (k := k) (by omega)
  omega
theorem bl_eq {n k : Nat} (h1 : 2 ^ k ≤ n) (h2 : n < 2 ^ (k + 1)) : bl n = k + 1 := Nat.le_antisymm (bl_le_of_lt h2) (le_bl_of_ge h1)
theorem bl_mul_pow {n : Nat} (k : Nat) (h : n ≠ 0) : bl (n * 2 ^ k) = bl n + k := by
  have h1 := bl_ge h
  have h2 := bl_lt n
  have h3 := bl_pos h
  have e : bl n + k = (bl n - 1 + k) + 1 := by omega
  rw [e]
  refine bl_eq ?_ ?_
  · rw [Nat.pow_add]; exact Nat.mul_le_mul_right _ h1
  · have e2 : bl n - 1 + k + 1 = bl n + k := by omega
    rw [e2, Nat.pow_add]; exact Nat.mul_lt_mul_of_pos_right h2 (Nat.two_pow_pos k)

theorem tz_zero : tz 0 = 0 := by unfold tz; simp
theorem tz_odd {n : Nat} (h : n % 2 = 1) : tz n = 0 := by
  unfold tz
  by_cases h0 : n = 0
  · simp [h0]
  · rw [dif_neg h0, if_pos h]
theorem tz_even {n : Nat} (h0 : n ≠ 0) (h : n % 2 = 0) : tz n = tz (n / 2) + 1 := by
  conv => lhs; unfold tz
  rw [dif_neg h0, if_neg (by omega)]
theorem tz_double {n : Nat} (h : n ≠ 0) : tz (2 * n) = tz n + 1 := by
  rw [tz_even (by omega) (by omega)]
  congr 2
  omega
theorem tz_mul_pow {n : Nat} (k : Nat) (h : n ≠ 0) : tz (n * 2 ^ k) = tz n + k := by
  induction k with
  | zero => simp
  | succ k ih =>
    have e : n * 2 ^ (k + 1) = 2 * (n * 2 ^ k) := by rw [Nat.pow_succ]; rw [← Nat.mul_assoc, Nat.mul_comm]
    rw [e, tz_double, ih]
    · omega
    · exact Nat.mul_ne_zero h (by have := Nat.two_pow_pos k; omega)
/-- n is its odd part times a power of two -/
theorem od_spec (n : Nat) : n = od n * 2 ^ tz n ∧ (n ≠ 0 → od n % 2 = 1) := by
  induction n using Nat.strongRecOn with
  | ind n ih =>
    by_cases h0 : n = 0
    · subst h0; exact ⟨by simp [od], fun h => absurd rfl h⟩
    · by_cases h1 : n % 2 = 1
      · have : od n = n := by unfold od; rw [tz_odd h1]; simp
        rw [this, tz_odd h1]; exact ⟨by simp, fun _ => h1⟩
      · have hz := tz_even h0 (by omega)
        have hh := ih (n / 2) (by omega)
        have hn : n = 2 * (n / 2) := by omega
        have ho : od n = od (n / 2) := by
          unfold od
          rw [hz, Nat.pow_succ, Nat.mul_comm, ← Nat.div_div_eq_div_mul]
        rw [ho, hz]
        refine ⟨?_, fun _ => hh.2 (by omega)⟩
        have h3 := hh.1
        rw [Nat.pow_succ, ← Nat.mul_assoc, ← h3]
        omega
theorem od_eq (n : Nat) : od n * 2 ^ tz n = n := (od_spec n).1.symm
theorem od_odd {n : Nat} (h : n ≠ 0) : od n % 2 = 1 := (od_spec n).2 h
theorem od_ne {n : Nat} (h : n ≠ 0) : od n ≠ 0 := by have := od_odd h; omega
theorem od_of_odd {n : Nat} (h : n % 2 = 1) : od n = n := by unfold od; rw [tz_odd h]; simp
theorem od_mul_pow {n : Nat} (k : Nat) (h : n ≠ 0) : od (n * 2 ^ k) = od n := by
  unfold od
  rw [tz_mul_pow k h, Nat.pow_add, Nat.mul_comm (2 ^ tz n) (2 ^ k), ← Nat.div_div_eq_div_mul, Nat.mul_div_cancel _ (Nat.two_pow_pos k)]
theorem bl_od {n : Nat} (h : n ≠ 0) : bl n = bl (od n) + tz n := by
  conv => lhs; rw [← od_eq n]
  exact bl_mul_pow _ (od_ne h)
theorem nf_mul_pow (sg : Int) (n k : Nat) (ex : Int) : nf sg (n * 2 ^ k) ex = nf sg n (ex + k) := by
  unfold nf
  by_cases h : n = 0
  · subst h; simp
  · have h2 : n * 2 ^ k ≠ 0 := Nat.mul_ne_zero h (by have := Nat.two_pow_pos k; omega)
    rw [if_neg h, if_neg h2, od_mul_pow k h, tz_mul_pow k h]
    congr 1
    push_cast
    omega
theorem nf_odd (sg : Int) {n : Nat} (ex : Int) (h : n % 2 = 1) : nf sg n ex = ⟨sg, n, ex, (bl n : Nat)⟩ := by
  unfold nf
  rw [if_neg (by omega), od_of_odd h, tz_odd h]
  simp

theorem trail {n : Int} (h : n ≠ 0) : (Builtin.Int.intBits (Builtin.bitAnd n (-n)) : Int) - 1 = (tz n.natAbs : Nat) := by
  have key : ∀ k : Nat, k ≠ 0 → Builtin.bitAnd (k : Int) (-(k : Int)) = ((2 ^ tz k : Nat) : Int) := by
    intro k hk
    have h1 := od_eq k
    have h2 := od_odd hk
    have h3 : (k : Int) = 2 ^ tz k * (2 * ((od k / 2 : Nat) : Int) + 1) := by
      have h4 : od k = 2 * (od k / 2) + 1 := by omega
      have h5 : (k : Int) = ((od k : Nat) : Int) * ((2 ^ tz k : Nat) : Int) := by rw [← Int.natCast_mul, h1]
      rw [h5]
      conv => lhs; rw [h4]
      push_cast
      rw [Int.mul_comm]
    conv => lhs; rw [h3]
    rw [PySem.W.kbt_low]
    push_cast
    rfl
  have fin : ∀ k : Nat, k ≠ 0 → (Builtin.Int.intBits (((2 ^ tz k : Nat) : Int)) : Int) - 1 = (tz k : Nat) := by
    intro k hk
    rw [intBits_bl, Int.natAbs_natCast, bl_eq (k := tz k) (Nat.le_refl _) (Nat.pow_lt_pow_right (by decide) (by omega))]
    push_cast
    omega
  by_cases hp : 0 ≤ n
  · obtain ⟨k, rfl⟩ := Int.eq_ofNat_of_zero_le hp
    rw [key k (by omega), fin k (by omega)]
    simp
  · obtain ⟨k, hk⟩ := Int.eq_ofNat_of_zero_le (a := -n) (by omega)
    have hn : n = -(k : Int) := by omega
    subst hn
    rw [PyProof.Rows.bitAnd_comm, Int.neg_neg, key k (by omega), fin k (by omega)]
    simp
end Mine

-- M1
namespace Mine
open PySem

def pnOne (sg M E B : Int) : T4 := if M = 1 then ⟨sg, M, E, 1⟩ else ⟨sg, M, E, B⟩
def pnTail (sg M E B : Int) : T4 :=
  if Builtin.bitAnd M 1 = 0 then pnOne sg (M.fdiv (2 ^ ((tz M.natAbs : Nat) : Int).toNat)) (E + (tz M.natAbs : Nat)) (B - (tz M.natAbs : Nat)) else pnOne sg M E B
def pnUp (sg man ex bc pr : Int) : T4 := pnTail sg ((man.fdiv (2 ^ (bc - pr - 1).toNat)).fdiv (2 ^ (1 : Int).toNat) + 1) (ex + (bc - pr)) pr
def pnDown (sg man ex bc pr : Int) : T4 := pnTail sg ((man.fdiv (2 ^ (bc - pr - 1).toNat)).fdiv (2 ^ (1 : Int).toNat)) (ex + (bc - pr)) pr
def pyNorm (sg man ex bc pr : Int) : T4 :=
  if man = 0 then ⟨0, 0, 0, 0⟩
  else if 0 < bc - pr then
    if Builtin.bitAnd (man.fdiv (2 ^ (bc - pr - 1).toNat)) 1 = 0 then pnDown sg man ex bc pr
    else if Builtin.bitAnd (man.fdiv (2 ^ (bc - pr - 1).toNat)) 2 = 0 then
      if Builtin.bitAnd man (1 * 2 ^ (bc - pr - 1).toNat - 1) = 0 then pnDown sg man ex bc pr else pnUp sg man ex bc pr
    else pnUp sg man ex bc pr
  else pnTail sg man ex bc

theorem and1 (x : Int) : Builtin.bitAnd x 1 = x % 2 := PyProof.Rows.bitAnd_m1 x
theorem and2 (x : Int) : Builtin.bitAnd x 2 = (x / 2 % 2) * 2 := by
  have := PySem.W.kbt_bit x 1
  simpa using this
theorem fdiv_nat (n k : Nat) : (n : Int).fdiv (2 ^ k) = ((n / 2 ^ k : Nat) : Int) := by
  rw [Int.fdiv_eq_ediv_of_nonneg _ (Int.le_of_lt (PySem.W.kbt_pos k)), ← PySem.W.kbt_cast, Int.natCast_ediv]
theorem pnOne_eq (sg : Int) {q : Nat} {E B : Int} (ho : q % 2 = 1) (hB : B = (bl q : Nat) ∨ q = 1) : pnOne sg q E B = nf sg q E := by
  rw [nf_odd sg E ho]
  unfold pnOne
  by_cases h : (q : Int) = 1
  · rw [if_pos h]
    have : q = 1 := by omega
    subst this
    have h1 : bl 1 = 1 := by decide +kernel
    rw [h1]; rfl
  · rw [if_neg h]
    rcases hB with hB | hB
    · rw [hB]
    · omega
theorem pnTail_eq (sg : Int) {q : Nat} {E B : Int} (h0 : q ≠ 0) (hB : B = (bl q : Nat) ∨ od q = 1) : pnTail sg q E B = nf sg q E := by
  unfold pnTail
  rw [and1]
  by_cases h : (q : Int) % 2 = 0
  · rw [if_pos h, Int.natAbs_natCast, Int.toNat_natCast, fdiv_nat]
    have h1 : q / 2 ^ tz q = od q := rfl
    rw [h1, pnOne_eq sg (od_odd h0)]
    · conv => rhs; rw [← od_eq q]
      rw [nf_mul_pow]
    · rcases hB with hB | hB
      · left; rw [hB, bl_od h0]; push_cast; omega
      · right; exact hB
  · rw [if_neg h]
    have ho : q % 2 = 1 := by omega
    exact pnOne_eq sg ho (hB.imp id fun e => by rw [od_of_odd ho] at e; exact e)
theorem pyNorm_nat (sg ex : Int) (n p : Nat) (hp : 0 < p) : pyNorm sg n ex (bl n : Nat) p = nf sg (rn p n) ex := by
  unfold pyNorm
  by_cases h0 : (n : Int) = 0
  · rw [if_pos h0]
    have : n = 0 := by omega
    subst this
    unfold nf rn; simp [bl_zero]
  rw [if_neg h0]
  have hn0 : n ≠ 0 := by omega
  by_cases hc : (0 : Int) < (bl n : Nat) - (p : Nat)
  · rw [if_pos hc]
    obtain ⟨c, hcc⟩ : ∃ c, bl n - p = c + 1 := ⟨bl n - p - 1, by omega⟩
    have hk : ((bl n : Int) - (p : Int) - 1).toNat = c := by omega
    have hcast : ((bl n : Int) - (p : Int)) = ((c + 1 : Nat) : Int) := by omega
    unfold pnUp pnDown
    rw [hk, hcast, fdiv_nat, and1, and2, Int.one_mul, PySem.W.kbt_mask]
    have e1 : ((1 : Int).toNat) = 1 := rfl
    rw [e1, fdiv_nat]
    -- the parts
    have hb := bl_lt n
    have hg := bl_ge hn0
    have hbl : bl n = p + (c + 1) := by omega
    have hpow : 2 ^ (c + 1) = 2 * 2 ^ c := by rw [Nat.pow_succ, Nat.mul_comm]
    have hP := Nat.two_pow_pos c
    have hq : n / 2 ^ c / 2 ^ 1 = n / 2 ^ (c + 1) := by rw [Nat.div_div_eq_div_mul, Nat.pow_one, Nat.pow_succ]
    have hm : ((n : Int) % 2 ^ c) = ((n % 2 ^ c : Nat) : Int) := by rw [← PySem.W.kbt_cast, Int.natCast_emod]
    rw [hq, hm]
    have hr : n % 2 ^ (c + 1) = n % 2 ^ c + 2 ^ c * (n / 2 ^ c % 2) := by rw [Nat.pow_succ, Nat.mod_mul]
    have hlt := Nat.mod_lt n hP
    -- q has p places
    have hqlt : n / 2 ^ (c + 1) < 2 ^ p := by
      rw [Nat.div_lt_iff_lt_mul (Nat.two_pow_pos _), ← Nat.pow_add, ← hbl]; exact hb
    have hqge : 2 ^ (p - 1) ≤ n / 2 ^ (c + 1) := by
      rw [Nat.le_div_iff_mul_le (Nat.two_pow_pos _), ← Nat.pow_add]
      have : p - 1 + (c + 1) = bl n - 1 := by omega
      rw [this]; exact hg
    have hqb : bl (n / 2 ^ (c + 1)) = p := by
      have := bl_eq (n := n / 2 ^ (c + 1)) (k := p - 1) hqge (by rw [show p - 1 + 1 = p by omega]; exact hqlt)
      omega
    have hpos := Nat.two_pow_pos (p - 1)
    -- down, up
    have down : pnTail sg ((n / 2 ^ (c + 1) : Nat) : Int) (ex + ((c + 1 : Nat) : Int)) p = nf sg (n / 2 ^ (c + 1) * 2 ^ (c + 1)) ex := by
      rw [pnTail_eq sg (by omega) (.inl (by rw [hqb])), nf_mul_pow]
    have up : pnTail sg (((n / 2 ^ (c + 1) : Nat) : Int) + 1) (ex + ((c + 1 : Nat) : Int)) p = nf sg ((n / 2 ^ (c + 1) + 1) * 2 ^ (c + 1)) ex := by
      have e2 : (((n / 2 ^ (c + 1) : Nat) : Int) + 1) = ((n / 2 ^ (c + 1) + 1 : Nat) : Int) := by push_cast; rfl
      rw [e2, pnTail_eq sg (by omega) ?_, nf_mul_pow]
      by_cases hlast : n / 2 ^ (c + 1) + 1 < 2 ^ p
      · left
        have := bl_eq (n := n / 2 ^ (c + 1) + 1) (k := p - 1) (by omega) (by rw [show p - 1 + 1 = p by omega]; exact hlast)
        omega
      · right
        have : n / 2 ^ (c + 1) + 1 = 1 * 2 ^ p := by omega
        rw [this, od_mul_pow p (by decide)]
        decide +kernel
    unfold rn
    rw [if_neg (show ¬ bl n ≤ p by omega), hcc]
    have d2 : n / 2 ^ c / 2 = n / 2 ^ (c + 1) := by rw [Nat.div_div_eq_div_mul, Nat.pow_succ]
    generalize n / 2 ^ (c + 1) = q at *
    generalize n % 2 ^ (c + 1) = r at *
    generalize n % 2 ^ c = r0 at *
    generalize n / 2 ^ c = tt at *
    generalize 2 ^ (c + 1) = Z at *
    generalize 2 ^ c = Y at *
    by_cases a1 : ((tt : Nat) : Int) % 2 = 0
    · rw [if_pos a1, down, if_neg]
      have : tt % 2 = 0 := by omega
      rw [this] at hr
      omega
    · rw [if_neg a1]
      have t1 : tt % 2 = 1 := by omega
      rw [t1] at hr
      by_cases a2 : ((tt : Nat) : Int) / 2 % 2 * 2 = 0
      · rw [if_pos a2]
        by_cases a3 : ((r0 : Nat) : Int) = 0
        · rw [if_pos a3, down, if_neg]
          omega
        · rw [if_neg a3, up, if_pos]
          left; omega
      · rw [if_neg a2, up, if_pos]
        by_cases a3 : r0 = 0
        · right; omega
        · left; omega
  · rw [if_neg hc, pnTail_eq sg hn0 (.inl rfl)]
    unfold rn
    rw [if_pos (by omega)]
theorem pyNorm_eq {sg man ex bc pr : Int} (hm : 0 ≤ man) (hb : bc = (Builtin.Int.intBits man : Nat)) (hp : 0 < pr) : pyNorm sg man ex bc pr = nfI sg man ex pr := by
  obtain ⟨n, rfl⟩ := Int.eq_ofNat_of_zero_le hm
  obtain ⟨p, rfl⟩ := Int.eq_ofNat_of_zero_le (Int.le_of_lt hp)
  rw [intBits_bl, Int.natAbs_natCast] at hb
  subst hb
  unfold nfI
  rw [Int.natAbs_natCast, Int.toNat_natCast]
  exact pyNorm_nat sg ex n p (by omega)
end Mine

-- M2
namespace Mine
open PySem

/-- the sums of two aligned mantissas: signs alike C; else D (the one that `q` picks) or E -/
def paS (sg ts q C D E e pr : Int) : T4 :=
  if sg = ts then nfI sg C e pr
  else if q = 0 then (if 0 ≤ E then nfI 0 E e pr else nfI 1 (-E) e pr)
  else (if 0 ≤ D then nfI 0 D e pr else nfI 1 (-D) e pr)
/-- the far case: the greater one and a last bit -/
def paBig (x y sg m e pr : Int) : T4 :=
  if x = y then nfI sg (m * 2 ^ (pr + 4).toNat + 1) (e - (pr + 4)) pr else nfI sg (m * 2 ^ (pr + 4).toNat - 1) (e - (pr + 4)) pr
def paUp (s t : T4) (ts pr : Int) : T4 := paS s.s ts s.s (t.m + s.m * 2 ^ (s.e - t.e).toNat) (t.m - s.m * 2 ^ (s.e - t.e).toNat) (s.m * 2 ^ (s.e - t.e).toNat - t.m) t.e pr
def paLo (s t : T4) (ts pr : Int) : T4 := paS s.s ts ts (s.m + t.m * 2 ^ (-(s.e - t.e)).toNat) (s.m - t.m * 2 ^ (-(s.e - t.e)).toNat) (t.m * 2 ^ (-(s.e - t.e)).toNat - s.m) s.e pr
def paEq (s t : T4) (ts pr : Int) : T4 := paS s.s ts s.s (t.m + s.m) (t.m - s.m) (s.m - t.m) t.e pr
def pyAdd (s t : T4) (pr sub : Int) : T4 :=
  if s.m = 0 then (if t.m = 0 then t else nfI (Builtin.bitXor t.s sub) t.m t.e pr)
  else if t.m = 0 then nfI s.s s.m s.e pr
  else if s.e - t.e = 0 then paEq s t (Builtin.bitXor t.s sub) pr
  else if 0 < s.e - t.e then
    if 100 < s.e - t.e then
      if pr + 4 < s.b + s.e - t.b - t.e then paBig (Builtin.bitXor t.s sub) s.s s.s s.m s.e pr else paUp s t (Builtin.bitXor t.s sub) pr
    else paUp s t (Builtin.bitXor t.s sub) pr
  else if s.e - t.e < -100 then
    if pr + 4 < t.b + t.e - s.b - s.e then paBig s.s (Builtin.bitXor t.s sub) (Builtin.bitXor t.s sub) t.m t.e pr else paLo s t (Builtin.bitXor t.s sub) pr
  else paLo s t (Builtin.bitXor t.s sub) pr

/-- what an addition may be asked of -/
structure AddOk (s t : T4) (pr sub : Int) : Prop where
  pr0 : 0 < pr
  pr1 : pr < 1000
  sub : sub = 0 ∨ sub = 1
  ts : t.s = 0 ∨ t.s = 1
  ss : s.s = 0 ∨ s.s = 1
  sm : 0 ≤ s.m
  tm : 0 ≤ t.m
  sb : s.b = (Builtin.Int.intBits s.m : Nat)
  tb : t.b = (Builtin.Int.intBits t.m : Nat)
  sB : s.b < 1000
  tB : t.b < 1000
  sz : s.m ≠ 0 ∨ s.e = 0
  tz : t.m ≠ 0 ∨ t.e = 0
  e1 : s.e - t.e < 1000
  e2 : t.e - s.e < 1000

theorem natAbs_lt_bits {x : Int} {k : Nat} (h : (Builtin.Int.intBits x : Nat) ≤ k) : x.natAbs < 2 ^ k := by
  rw [intBits_bl] at h; exact lt_of_bl_le h
theorem bits_of_abs {x : Int} {k : Nat} (h : x.natAbs < 2 ^ k) : Builtin.Int.intBits x ≤ k := by
  rw [intBits_bl]; exact bl_le_of_lt h
def BitsBd (Z : Int) : Prop := ∀ x : Int, -(2 * Z) ≤ x → x ≤ 2 * Z → (Builtin.Int.intBits x : Int) < 1000000
/-- one bound for all that the addition reckons -/
theorem AddOk.bound {s t : T4} {pr sub : Int} (H : AddOk s t pr sub) : ∃ Z : Int, BitsBd Z ∧ 1 ≤ Z ∧ s.m ≤ Z ∧ t.m ≤ Z ∧
    0 ≤ s.m * 2 ^ (s.e - t.e).toNat ∧ s.m * 2 ^ (s.e - t.e).toNat ≤ Z ∧ 0 ≤ t.m * 2 ^ (-(s.e - t.e)).toNat ∧ t.m * 2 ^ (-(s.e - t.e)).toNat ≤ Z ∧
    s.m ≤ s.m * 2 ^ (pr + 4).toNat ∧ s.m * 2 ^ (pr + 4).toNat ≤ Z ∧ t.m ≤ t.m * 2 ^ (pr + 4).toNat ∧ t.m * 2 ^ (pr + 4).toNat ≤ Z := by
  have hs : s.m < ((2 ^ 1000 : Nat) : Int) := by
    have := natAbs_lt_bits (x := s.m) (k := 1000) (by have := H.sb; have := H.sB; omega)
    have h2 := H.sm
    generalize 2 ^ 1000 = W at *
    omega
  have ht : t.m < ((2 ^ 1000 : Nat) : Int) := by
    have := natAbs_lt_bits (x := t.m) (k := 1000) (by have := H.tb; have := H.tB; omega)
    have h2 := H.tm
    generalize 2 ^ 1000 = W at *
    omega
  have key : ∀ (m : Int) (k : Nat), 0 ≤ m → m < ((2 ^ 1000 : Nat) : Int) → k ≤ 2000 → 0 ≤ m * 2 ^ k ∧ m ≤ m * 2 ^ k ∧ m * 2 ^ k ≤ ((2 ^ 3000 : Nat) : Int) := by
    intro m k h0 h1 hk
    obtain ⟨n, rfl⟩ := Int.eq_ofNat_of_zero_le h0
    rw [← PySem.W.kbt_cast, ← Int.natCast_mul]
    have h3 : n * 2 ^ k ≤ 2 ^ 1000 * 2 ^ 2000 := Nat.mul_le_mul (by omega) (Nat.pow_le_pow_right (by decide) hk)
    have h4 : 2 ^ 1000 * 2 ^ 2000 = 2 ^ 3000 := by rw [← Nat.pow_add]
    have h5 : n * 1 ≤ n * 2 ^ k := Nat.mul_le_mul_left n (Nat.two_pow_pos k)
    rw [h4] at h3
    generalize 2 ^ 3000 = W at *
    omega
  have h3 := key s.m (s.e - t.e).toNat H.sm hs (by have := H.e1; omega)
  have h4 := key t.m (-(s.e - t.e)).toNat H.tm ht (by have := H.e2; omega)
  have h5 := key s.m (pr + 4).toNat H.sm hs (by have := H.pr1; omega)
  have h6 := key t.m (pr + 4).toNat H.tm ht (by have := H.pr1; omega)
  refine ⟨((2 ^ 3000 : Nat) : Int), fun x h1 h2 => ?_, ?_, ?_, ?_, h3.1, h3.2.2, h4.1, h4.2.2, h5.2.1, h5.2.2, h6.2.1, h6.2.2⟩
  · have e : 2 ^ 3002 = 2 * (2 * 2 ^ 3000) := by
      rw [show (3002 : Nat) = 3000 + 1 + 1 by rfl, Nat.pow_succ, Nat.pow_succ]
      generalize 2 ^ 3000 = W
      omega
    have hp := Nat.two_pow_pos 3000
    have := bits_of_abs (x := x) (k := 3002) (by
      rw [e]
      generalize 2 ^ 3000 = W at *
      omega)
    omega
  · have := Nat.two_pow_pos 3000
    generalize 2 ^ 3000 = W at *
    omega
  · exact Int.le_trans h5.2.1 h5.2.2
  · exact Int.le_trans h6.2.1 h6.2.2
end Mine

-- M3
namespace Mine
open PySem

/-- the whole number v, in units of 2^low, as mpmath keeps it (the same as from_man_exp v low) -/
def fm (low v : Int) : T4 := nf (if v < 0 then 1 else 0) v.natAbs low

theorem pow_le_of {a b : Nat} (h : a ≤ b) : 2 ^ a ≤ 2 ^ b := Nat.pow_le_pow_right (by decide) h
theorem tz_le_bl (n : Nat) : tz n ≤ bl n := by
  by_cases h : n = 0
  · subst h; simp [tz_zero]
  · rw [bl_od h]; omega
theorem bl_od_le (n : Nat) : bl (od n) ≤ bl n := by
  by_cases h : n = 0
  · subst h; unfold od; simp
  · rw [bl_od h]; omega
structure FmIs (low v : Int) (t : T4) : Prop where
  s : t.s = 0 ∨ t.s = 1
  m : 0 ≤ t.m
  b : t.b = (Builtin.Int.intBits t.m : Nat)
  z : t.m ≠ 0 ∨ t.e = 0
  z' : t.m = 0 → t.e = 0
  v0 : t.m = 0 ↔ v = 0
  e1 : t.m ≠ 0 → low ≤ t.e
  e2 : t.m ≠ 0 → t.e ≤ low + (bl v.natAbs : Nat)
  bb : t.b ≤ (bl v.natAbs : Nat)
  val : t.m ≠ 0 → (if t.s = 0 then t.m else -t.m) * 2 ^ (t.e - low).toNat = v
  sg : t.m ≠ 0 → t.s = if v < 0 then 1 else 0
  bo : t.b ≤ (bl (od v.natAbs) : Nat)
  od2 : t.m = 0 ∨ t.m.fmod 2 = 1
  zero : t.m = 0 → t = ⟨0, 0, 0, 0⟩
theorem fm_is (low v : Int) : FmIs low v (fm low v) := by
  by_cases h : v.natAbs = 0
  · have hv : v = 0 := by omega
    subst hv
    have e : fm low 0 = ⟨0, 0, 0, 0⟩ := by unfold fm nf; simp
    rw [e]
    exact ⟨.inl rfl, Int.le_refl _, by show (0 : Int) = _; rw [intBits_bl]; rfl, .inr rfl, fun _ => rfl, by simp, by simp, by simp, by show (0 : Int) ≤ _; omega, by simp, by simp, by show (0 : Int) ≤ _; omega, .inl rfl, fun _ => rfl⟩
  · have e : fm low v = ⟨if v < 0 then 1 else 0, (od v.natAbs : Nat), low + (tz v.natAbs : Nat), (bl (od v.natAbs) : Nat)⟩ := by unfold fm nf; rw [if_neg h]
    have ho := od_odd h
    have hz := tz_le_bl v.natAbs
    have hb := bl_od_le v.natAbs
    have hs := od_eq v.natAbs
    rw [e]
    refine ⟨?_, ?_, ?_, ?_, ?_, ?_, ?_, ?_, ?_, ?_, ?_, Int.le_refl _, ?_, fun h0 => absurd (show ((od v.natAbs : Nat) : Int) = 0 from h0) (by omega)⟩
    · show (if v < 0 then (1 : Int) else 0) = 0 ∨ (if v < 0 then (1 : Int) else 0) = 1
      split <;> simp
    · show (0 : Int) ≤ ((od v.natAbs : Nat) : Int); omega
    · show ((bl (od v.natAbs) : Nat) : Int) = _; rw [intBits_bl, Int.natAbs_natCast]
    · left; show ((od v.natAbs : Nat) : Int) ≠ 0; omega
    · show ((od v.natAbs : Nat) : Int) = 0 → _; omega
    · show ((od v.natAbs : Nat) : Int) = 0 ↔ _; omega
    · intro _; show low ≤ low + ((tz v.natAbs : Nat) : Int); omega
    · intro _; show low + ((tz v.natAbs : Nat) : Int) ≤ _; omega
    · show ((bl (od v.natAbs) : Nat) : Int) ≤ _; omega
    · intro _
      show (if (if v < 0 then (1 : Int) else 0) = 0 then ((od v.natAbs : Nat) : Int) else -((od v.natAbs : Nat) : Int)) * 2 ^ (low + ((tz v.natAbs : Nat) : Int) - low).toNat = v
      have e2 : (low + ((tz v.natAbs : Nat) : Int) - low).toNat = tz v.natAbs := by omega
      rw [e2, ← PySem.W.kbt_cast]
      have e3 : ((od v.natAbs : Nat) : Int) * ((2 ^ tz v.natAbs : Nat) : Int) = (v.natAbs : Nat) := by rw [← Int.natCast_mul, hs]
      by_cases hn : v < 0
      · rw [if_pos hn, if_neg (by decide), Int.neg_mul, e3]; omega
      · rw [if_neg hn, if_pos rfl, e3]; omega
    · intro _; rfl
    · right
      show ((od v.natAbs : Nat) : Int).fmod 2 = 1
      rw [Int.fmod_eq_emod_of_nonneg _ (by decide)]
      omega
theorem fm_zero (low : Int) : fm low 0 = ⟨0, 0, 0, 0⟩ := by unfold fm nf; simp

/-- two roads to one number -/
theorem fm_scale {l1 l2 a b : Int} {j k : Nat} (h : a * 2 ^ j = b * 2 ^ k) (hl : l1 - j = l2 - k) : fm l1 a = fm l2 b := by
  have key : ∀ (l c : Int) (i : Nat), fm l c = fm (l - i) (c * 2 ^ i) := by
    intro l c i
    have hp := PySem.W.kbt_pos i
    unfold fm
    have e1 : (c * 2 ^ i < 0) ↔ c < 0 := by
      constructor
      · intro h
        refine Int.not_le.mp fun h0 => ?_
        have := Int.mul_nonneg h0 (Int.le_of_lt hp)
        omega
      · intro h; exact Int.mul_neg_of_neg_of_pos h hp
    have e2 : (c * 2 ^ i).natAbs = c.natAbs * 2 ^ i := by
      rw [Int.natAbs_mul, ← PySem.W.kbt_cast, Int.natAbs_natCast]
    rw [e2, nf_mul_pow]
    have e3 : l - (i : Int) + (i : Int) = l := by omega
    rw [e3]
    by_cases hc : c < 0
    · rw [if_pos hc, if_pos (e1.mpr hc)]
    · rw [if_neg hc, if_neg (fun h => hc (e1.mp h))]
  rw [key l1 a j, key l2 b k, h, hl]

/-- the sum's turn: man, exp stand for V -/
structure SumI (low M X V : Int) : Prop where
  x0 : -100 ≤ X
  x1 : X ≤ 500
  eq : M * 2 ^ (X + 100).toNat = V * 2 ^ (low + 100).toNat
theorem pow_split {a b c : Nat} (h : c = a + b) : (2 : Int) ^ c = 2 ^ a * 2 ^ b := by rw [h, Int.pow_add]
theorem SumI.start {low : Int} : SumI low 0 0 0 := ⟨by decide, by decide, by simp⟩
theorem SumI.hi {low M X V u x e : Int} (h : SumI low M X V) (hl : -100 ≤ low) (he : low ≤ e) (hX : X ≤ e) (hv : x * 2 ^ (e - low).toNat = u) : SumI low (M + x * 2 ^ (e - X).toNat) X (V + u) := by
  refine ⟨h.x0, h.x1, ?_⟩
  have h0 := h.x0
  rw [Int.add_mul, Int.add_mul, h.eq, ← hv, Int.mul_assoc, Int.mul_assoc, ← Int.pow_add, ← Int.pow_add]
  have : (e - X).toNat + (X + 100).toNat = (e - low).toNat + (low + 100).toNat := by omega
  rw [this]
theorem SumI.lo {low M X V u x e : Int} (h : SumI low M X V) (hl : -100 ≤ low) (he : low ≤ e) (he2 : e ≤ 500) (hX : e < X) (hv : x * 2 ^ (e - low).toNat = u) : SumI low (M * 2 ^ (-(e - X)).toNat + x) e (V + u) := by
  refine ⟨by omega, he2, ?_⟩
  have h0 := h.x0
  have h1 := h.eq
  have e1 : (X + 100).toNat = (-(e - X)).toNat + (e + 100).toNat := by omega
  rw [e1, Int.pow_add, ← Int.mul_assoc] at h1
  rw [Int.add_mul, Int.add_mul, h1, ← hv, Int.mul_assoc x, ← Int.pow_add]
  have : (e + 100).toNat = (e - low).toNat + (low + 100).toNat := by omega
  rw [this]
theorem SumI.done {low M X V : Int} (h : SumI low M X V) (hl : -100 ≤ low) : fm X M = fm low V :=
  fm_scale h.eq (by have := h.x0; omega)
theorem SumI.bits {low M X V : Int} (h : SumI low M X V) (hl : low ≤ 100) (hV : V.natAbs < 2 ^ 1000) : (Builtin.Int.intBits M : Nat) ≤ 2000 := by
  refine bits_of_abs ?_
  have h1 := congrArg Int.natAbs h.eq
  rw [Int.natAbs_mul, Int.natAbs_mul, ← PySem.W.kbt_cast, ← PySem.W.kbt_cast, Int.natAbs_natCast, Int.natAbs_natCast] at h1
  have h2 : M.natAbs * 1 ≤ M.natAbs * 2 ^ (X + 100).toNat := Nat.mul_le_mul_left _ (Nat.two_pow_pos _)
  have h3 : V.natAbs * 2 ^ (low + 100).toNat < 2 ^ 1000 * 2 ^ 1000 := by
    refine Nat.lt_of_le_of_lt (Nat.mul_le_mul_left _ (pow_le_of (b := 1000) (by omega))) (Nat.mul_lt_mul_of_pos_right hV (Nat.two_pow_pos _))
  rw [← Nat.pow_add] at h3
  have h4 : 1000 + 1000 = 2000 := rfl
  rw [h4] at h3
  generalize 2 ^ 2000 = W at *
  generalize M.natAbs * 2 ^ (X + 100).toNat = Y at *
  omega
end Mine

-- M4
namespace Mine
open PySem

theorem rn_ne {p n : Nat} (hn : n ≠ 0) (hp : 0 < p) : rn p n ≠ 0 := by
  unfold rn
  by_cases h : bl n ≤ p
  · rw [if_pos h]; exact hn
  · rw [if_neg h]
    have hg := bl_ge hn
    have hP := Nat.two_pow_pos (bl n - p)
    have hq : 0 < n / 2 ^ (bl n - p) := by
      refine Nat.div_pos ?_ hP
      exact Nat.le_trans (pow_le_of (by omega)) hg
    split
    · exact Nat.mul_ne_zero (by omega) (by omega)
    · exact Nat.mul_ne_zero (by omega) (by omega)
section
variable {a0 pr low sg : Int} {n p : Nat} (ha : a0 = (n : Nat)) (hp : pr = (p : Nat)) (h0 : 0 < p) (hn : n ≠ 0) (hc : 0 < (Builtin.Int.intBits a0 : Int) - pr)
include ha hp h0 hn hc
theorem near_parts : ∃ c, bl n - p = c ∧ ¬ bl n ≤ p ∧ ((Builtin.Int.intBits a0 : Int) - pr) = (c : Nat) ∧ (1 * 2 ^ ((Builtin.Int.intBits a0 : Int) - pr).toNat : Int) = ((2 ^ c : Nat) : Int) ∧
    a0.fdiv (1 * 2 ^ ((Builtin.Int.intBits a0 : Int) - pr).toNat) = ((n / 2 ^ c : Nat) : Int) ∧ a0.fmod (1 * 2 ^ ((Builtin.Int.intBits a0 : Int) - pr).toNat) = ((n % 2 ^ c : Nat) : Int) ∧ 0 < n / 2 ^ c := by
  subst ha hp
  rw [intBits_bl, Int.natAbs_natCast] at *
  have e1 : ((bl n : Int) - (p : Int)).toNat = bl n - p := by omega
  have e2 : (1 * 2 ^ ((bl n : Int) - (p : Int)).toNat : Int) = ((2 ^ (bl n - p) : Nat) : Int) := by rw [e1, Int.one_mul, PySem.W.kbt_cast]
  refine ⟨bl n - p, rfl, by omega, by omega, e2, ?_, ?_, ?_⟩
  · rw [e2, PySem.W.kbt_cast, fdiv_nat]
  · rw [e2, Int.fmod_eq_emod_of_nonneg _ (Int.natCast_nonneg _), Int.natCast_emod]
  · exact Nat.div_pos (Nat.le_trans (pow_le_of (by omega)) (bl_ge hn)) (Nat.two_pow_pos _)
theorem near_up (h : (1 * 2 ^ ((Builtin.Int.intBits a0 : Int) - pr).toNat : Int) < 2 * a0.fmod (1 * 2 ^ ((Builtin.Int.intBits a0 : Int) - pr).toNat) ∨
      (2 * a0.fmod (1 * 2 ^ ((Builtin.Int.intBits a0 : Int) - pr).toNat) = 1 * 2 ^ ((Builtin.Int.intBits a0 : Int) - pr).toNat ∧ (a0.fdiv (1 * 2 ^ ((Builtin.Int.intBits a0 : Int) - pr).toNat)).fmod 2 = 1)) :
    ∃ A : Nat, a0.fdiv (1 * 2 ^ ((Builtin.Int.intBits a0 : Int) - pr).toNat) + 1 = (A : Nat) ∧ A ≠ 0 ∧ nf sg A (low + ((Builtin.Int.intBits a0 : Int) - pr)) = nf sg (rn p n) low := by
  obtain ⟨c, e0, e1, e2, e3, e4, e5, e6⟩ := near_parts ha hp h0 hn hc
  rw [e4, e5, e3, Int.fmod_eq_emod_of_nonneg _ (by decide)] at h
  rw [e4, e2]
  refine ⟨n / 2 ^ c + 1, by push_cast; rfl, by omega, ?_⟩
  rw [← nf_mul_pow]
  unfold rn
  rw [if_neg e1, e0]
  generalize n % 2 ^ c = r at *
  generalize n / 2 ^ c = q at *
  generalize 2 ^ c = U at *
  rw [if_pos (by omega)]
theorem near_down (h1 : ¬ (1 * 2 ^ ((Builtin.Int.intBits a0 : Int) - pr).toNat : Int) < 2 * a0.fmod (1 * 2 ^ ((Builtin.Int.intBits a0 : Int) - pr).toNat))
    (h2 : 2 * a0.fmod (1 * 2 ^ ((Builtin.Int.intBits a0 : Int) - pr).toNat) ≠ 1 * 2 ^ ((Builtin.Int.intBits a0 : Int) - pr).toNat ∨ (a0.fdiv (1 * 2 ^ ((Builtin.Int.intBits a0 : Int) - pr).toNat)).fmod 2 ≠ 1) :
    ∃ A : Nat, a0.fdiv (1 * 2 ^ ((Builtin.Int.intBits a0 : Int) - pr).toNat) = (A : Nat) ∧ A ≠ 0 ∧ nf sg A (low + ((Builtin.Int.intBits a0 : Int) - pr)) = nf sg (rn p n) low := by
  obtain ⟨c, e0, e1, e2, e3, e4, e5, e6⟩ := near_parts ha hp h0 hn hc
  rw [e5, e3] at h1
  rw [e4, e5, e3, Int.fmod_eq_emod_of_nonneg _ (by decide)] at h2
  rw [e4, e2]
  refine ⟨n / 2 ^ c, rfl, by omega, ?_⟩
  rw [← nf_mul_pow]
  unfold rn
  rw [if_neg e1, e0]
  generalize n % 2 ^ c = r at *
  generalize n / 2 ^ c = q at *
  generalize 2 ^ c = U at *
  rw [if_neg (by omega)]
end
theorem near_small {a0 pr low sg : Int} {n p : Nat} (ha : a0 = (n : Nat)) (hp : pr = (p : Nat)) (hn : n ≠ 0) (hc : ¬ 0 < (Builtin.Int.intBits a0 : Int) - pr) :
    ∃ A : Nat, a0 = (A : Nat) ∧ A ≠ 0 ∧ nf sg A low = nf sg (rn p n) low := by
  subst ha hp
  rw [intBits_bl, Int.natAbs_natCast] at hc
  refine ⟨n, rfl, hn, ?_⟩
  unfold rn
  rw [if_pos (by omega)]
theorem near_turn {sg e : Int} {A : Nat} (hA : A ≠ 0) (h : ((A : Int).fmod 2 == 0) = true) : ∃ B : Nat, (A : Int).fdiv 2 = (B : Nat) ∧ B < A ∧ B ≠ 0 ∧ nf sg B (e + 1) = nf sg A e := by
  have h1 : (A : Int) % 2 = 0 := by
    have := beq_iff_eq.mp h
    rwa [Int.fmod_eq_emod_of_nonneg _ (by decide)] at this
  refine ⟨A / 2, ?_, by omega, by omega, ?_⟩
  · rw [Int.fdiv_eq_ediv_of_nonneg _ (by decide)]; omega
  · have e1 : A = A / 2 * 2 ^ 1 := by omega
    conv => rhs; rw [e1]
    rw [nf_mul_pow]
    rfl
theorem near_end {sg e : Int} {A : Nat} (hA : A ≠ 0) (h : ¬ ((A : Int).fmod 2 == 0) = true) : nf sg A e = ⟨sg, (A : Nat), e, (Builtin.Int.intBits (A : Int) : Nat)⟩ := by
  have h1 : (A : Int) % 2 ≠ 0 := by
    intro h2
    apply h
    rw [Int.fmod_eq_emod_of_nonneg _ (by decide), h2]
    rfl
  rw [nf_odd sg e (by omega), intBits_bl, Int.natAbs_natCast]
theorem fm_rn {v low pr : Int} (hv : v ≠ 0) (hp : 0 < pr) : fm low (if v < 0 then -(rn pr.toNat v.natAbs : Nat) else (rn pr.toNat v.natAbs : Nat)) = nf (if v < 0 then 1 else 0) (rn pr.toNat v.natAbs) low := by
  have h := rn_ne (p := pr.toNat) (n := v.natAbs) (by omega) (by omega)
  unfold fm
  by_cases hn : v < 0
  · rw [if_pos hn, if_pos hn, if_pos (by omega), Int.natAbs_neg, Int.natAbs_natCast]
  · rw [if_neg hn, if_neg hn, if_neg (by omega), Int.natAbs_natCast]
end Mine

-- M5
namespace Mine
open PySem

theorem fm_neg (low u : Int) : fm low (-u) = if (fm low u).m = 0 then fm low u else ⟨1 - (fm low u).s, (fm low u).m, (fm low u).e, (fm low u).b⟩ := by
  by_cases h : u.natAbs = 0
  · have hu : u = 0 := by omega
    subst hu
    simp [fm_zero]
  · have e1 : fm low u = ⟨if u < 0 then 1 else 0, (od u.natAbs : Nat), low + (tz u.natAbs : Nat), (bl (od u.natAbs) : Nat)⟩ := by unfold fm nf; rw [if_neg h]
    have e2 : fm low (-u) = ⟨if -u < 0 then 1 else 0, (od u.natAbs : Nat), low + (tz u.natAbs : Nat), (bl (od u.natAbs) : Nat)⟩ := by
      unfold fm nf; rw [Int.natAbs_neg, if_neg h]
    have ho := od_odd h
    rw [e1, e2, if_neg (show ¬ ((od u.natAbs : Nat) : Int) = 0 by omega)]
    congr 1
    by_cases hn : u < 0
    · rw [if_pos hn, if_neg (by omega)]; rfl
    · rw [if_neg hn, if_pos (by omega)]; rfl
theorem fm_at {low M a : Int} (ha : 0 ≤ a) : fm low (M * (1 * 2 ^ a.toNat)) = fm (low + a) M := by
  rw [Int.one_mul]
  exact fm_scale (j := 0) (k := a.toNat) (by simp) (by omega)
def GoodU (pv u : Int) : Prop := (bl (od u.natAbs) : Int) ≤ pv ∧ u.natAbs < 2 ^ 200
theorem GoodU.neg {pv u : Int} (h : GoodU pv u) : GoodU pv (-u) := by unfold GoodU; rw [Int.natAbs_neg]; exact h
theorem GoodU.at {pv M a : Int} (p0 : 0 ≤ pv) (p1 : pv ≤ 16) (h1 : -(1 * 2 ^ pv.toNat) < M) (h2 : M < 1 * 2 ^ pv.toNat) (ha : 0 ≤ a) (ha2 : a ≤ 180) : GoodU pv (M * (1 * 2 ^ a.toNat)) := by
  rw [Int.one_mul] at *
  have hM : M.natAbs < 2 ^ pv.toNat := by
    rw [← PySem.W.kbt_cast] at h1 h2
    generalize 2 ^ pv.toNat = W at *
    omega
  have e : (M * 2 ^ a.toNat).natAbs = M.natAbs * 2 ^ a.toNat := by rw [Int.natAbs_mul, ← PySem.W.kbt_cast, Int.natAbs_natCast]
  unfold GoodU
  rw [e]
  constructor
  · by_cases h0 : M.natAbs = 0
    · rw [h0, Nat.zero_mul]
      have : od 0 = 0 := by unfold od; simp
      rw [this, bl_zero]; omega
    · rw [od_mul_pow _ h0]
      have h3 := bl_od_le M.natAbs
      have h4 := bl_le_of_lt hM
      omega
  · calc M.natAbs * 2 ^ a.toNat < 2 ^ pv.toNat * 2 ^ a.toNat := Nat.mul_lt_mul_of_pos_right hM (Nat.two_pow_pos _)
      _ = 2 ^ (pv.toNat + a.toNat) := by rw [Nat.pow_add]
      _ ≤ 2 ^ 200 := pow_le_of (by omega)
theorem mulOk_small {a b : Int} (h1 : -65536 ≤ a) (h2 : a ≤ 65536) : IntMulOk a b := by
  refine IntMulOk.of_left ?_
  have : a.natAbs < 2 ^ 17 := by omega
  have := bits_of_abs this
  omega
end Mine

-- M6
namespace Mine
open PySem

/-- of at most p binary places -/
def RepN (p n : Nat) : Prop := ∃ k : Nat, 2 ^ k ∣ n ∧ n < 2 ^ (p + k)
theorem rn_cases {p n : Nat} (hp : 0 < p) : (bl n ≤ p ∧ rn p n = n) ∨ ∃ c q r, bl n = p + c ∧ 0 < c ∧ n = q * 2 ^ c + r ∧ r < 2 ^ c ∧ 2 ^ (p - 1) ≤ q ∧ q < 2 ^ p ∧ ((rn p n = q * 2 ^ c ∧ 2 * r ≤ 2 ^ c ∧ (2 * r = 2 ^ c → q % 2 = 0)) ∨ (rn p n = (q + 1) * 2 ^ c ∧ 2 ^ c ≤ 2 * r ∧ (2 * r = 2 ^ c → q % 2 = 1))) := by
  by_cases h : bl n ≤ p
  · left; refine ⟨h, ?_⟩; unfold rn; rw [if_pos h]
  · right
    have hn : n ≠ 0 := by intro e; subst e; rw [bl_zero] at h; omega
    refine ⟨bl n - p, n / 2 ^ (bl n - p), n % 2 ^ (bl n - p), by omega, by omega, ?_, Nat.mod_lt _ (Nat.two_pow_pos _), ?_, ?_, ?_⟩
    · rw [Nat.mul_comm]; exact (Nat.div_add_mod n _).symm
    · rw [Nat.le_div_iff_mul_le (Nat.two_pow_pos _), ← Nat.pow_add]
      rw [show p - 1 + (bl n - p) = bl n - 1 by omega]; exact bl_ge hn
    · rw [Nat.div_lt_iff_lt_mul (Nat.two_pow_pos _), ← Nat.pow_add, show p + (bl n - p) = bl n by omega]; exact bl_lt n
    · unfold rn
      rw [if_neg h]
      generalize n % 2 ^ (bl n - p) = r
      generalize n / 2 ^ (bl n - p) = q
      generalize 2 ^ (bl n - p) = U
      by_cases hc : U < 2 * r ∨ (2 * r = U ∧ q % 2 = 1)
      · rw [if_pos hc]; right; refine ⟨rfl, by omega, by omega⟩
      · rw [if_neg hc]; left; refine ⟨rfl, by omega, by omega⟩
theorem rn_of_cases {p n c q r : Nat} (hp : 0 < p) (hb : bl n = p + c) (hc : 0 < c) (hn : n = q * 2 ^ c + r) (hr : r < 2 ^ c) :
    (2 * r < 2 ^ c → rn p n = q * 2 ^ c) ∧ (2 ^ c < 2 * r → rn p n = (q + 1) * 2 ^ c) := by
  rcases rn_cases (n := n) hp with ⟨h, _⟩ | ⟨c', q', r', h1, h2, h3, h4, _, _, h7⟩
  · omega
  · have ec : c' = c := by omega
    subst ec
    have eq : q' = q := by
      have e1 : n / 2 ^ c' = q' := by rw [h3, Nat.mul_comm, Nat.mul_add_div (Nat.two_pow_pos _), Nat.div_eq_of_lt h4, Nat.add_zero]
      have e2 : n / 2 ^ c' = q := by rw [hn, Nat.mul_comm, Nat.mul_add_div (Nat.two_pow_pos _), Nat.div_eq_of_lt hr, Nat.add_zero]
      omega
    subst eq
    have er : r' = r := by omega
    subst er
    constructor
    · intro h; rcases h7 with ⟨h7, _⟩ | ⟨h7, h8, _⟩
      · exact h7
      · omega
    · intro h; rcases h7 with ⟨h7, h8, _⟩ | ⟨h7, h8, _⟩
      · omega
      · exact h7
theorem rep_gap {p y c q : Nat} (hp : 0 < p) (hy : RepN p y) (hq : 2 ^ (p - 1) ≤ q) : y ≤ q * 2 ^ c ∨ (q + 1) * 2 ^ c ≤ y := by
  refine Classical.byContradiction fun hc => ?_
  obtain ⟨k, hk, hlt⟩ := hy
  have h1 : q * 2 ^ c < y := by omega
  have h2 : y < (q + 1) * 2 ^ c := by omega
  have h3 : 2 ^ (p - 1) * 2 ^ c ≤ q * 2 ^ c := Nat.mul_le_mul_right _ hq
  rw [← Nat.pow_add] at h3
  have h4 : p - 1 + c < p + k := (Nat.pow_lt_pow_iff_right (a := 2) (by decide)).mp (by omega)
  obtain ⟨z, hz⟩ := Nat.dvd_trans (Nat.pow_dvd_pow 2 (show c ≤ k by omega)) hk
  rw [hz, Nat.mul_comm q] at h1
  rw [hz, Nat.mul_comm (q + 1)] at h2
  have h5 := Nat.lt_of_mul_lt_mul_left h1
  have h6 := Nat.lt_of_mul_lt_mul_left h2
  omega
theorem rn_near {p n y : Nat} (hp : 0 < p) (hy : RepN p y) : ((n : Int) - (rn p n : Nat)).natAbs ≤ ((n : Int) - (y : Nat)).natAbs := by
  rcases rn_cases (n := n) hp with ⟨_, h⟩ | ⟨c, q, r, h1, h2, h3, h4, h5, h6, h7⟩
  · rw [h]; omega
  · have hg := rep_gap (c := c) hp hy h5
    have e : (q + 1) * 2 ^ c = q * 2 ^ c + 2 ^ c := by rw [Nat.add_mul, Nat.one_mul]
    rw [e] at hg h7
    generalize q * 2 ^ c = A at *
    generalize 2 ^ c = U at *
    omega
theorem RepN.rn {p n : Nat} (hp : 0 < p) : RepN p (rn p n) := by
  rcases rn_cases (n := n) hp with ⟨h1, h⟩ | ⟨c, q, r, h1, h2, h3, h4, h5, h6, h7⟩
  · rw [h]; exact ⟨0, by simp, by simpa using lt_of_bl_le h1⟩
  · rcases h7 with ⟨h7, _⟩ | ⟨h7, _⟩
    · rw [h7]
      refine ⟨c, Nat.dvd_mul_left _ _, ?_⟩
      rw [Nat.pow_add]; exact Nat.mul_lt_mul_of_pos_right h6 (Nat.two_pow_pos _)
    · rw [h7]
      by_cases h8 : q + 1 < 2 ^ p
      · refine ⟨c, Nat.dvd_mul_left _ _, ?_⟩
        rw [Nat.pow_add]; exact Nat.mul_lt_mul_of_pos_right h8 (Nat.two_pow_pos _)
      · have e : q + 1 = 2 ^ p := by omega
        rw [e, ← Nat.pow_add]
        exact ⟨p + c, Nat.dvd_refl _, Nat.pow_lt_pow_right (by decide) (by omega)⟩
theorem rn_self {p n : Nat} (hp : 0 < p) (h : RepN p n) : rn p n = n := by
  have := rn_near (n := n) hp h
  omega
theorem RepN.zero {p : Nat} : RepN p 0 := ⟨0, by simp, Nat.two_pow_pos _⟩
theorem RepN.pow {p k : Nat} (hp : 0 < p) : RepN p (2 ^ k) := ⟨k, Nat.dvd_refl _, Nat.pow_lt_pow_right (by decide) (by omega)⟩
theorem rn_zero {p : Nat} (hp : 0 < p) : rn p 0 = 0 := rn_self hp RepN.zero
/-- multiples of a power of two stay such -/
theorem rn_dvd {p n k : Nat} (hp : 0 < p) (h : 2 ^ k ∣ n) : 2 ^ k ∣ rn p n := by
  rcases rn_cases (n := n) hp with ⟨_, e⟩ | ⟨c, q, r, h1, h2, h3, h4, h5, h6, h7⟩
  · rw [e]; exact h
  · by_cases hk : k ≤ c
    · have hd := Nat.pow_dvd_pow 2 hk
      rcases h7 with ⟨h7, _⟩ | ⟨h7, _⟩ <;> (rw [h7]; exact Nat.dvd_trans hd (Nat.dvd_mul_left _ _))
    · have hd := Nat.dvd_trans (Nat.pow_dvd_pow 2 (show c ≤ k by omega)) h
      have hr : r = 0 := by
        have h8 : 2 ^ c ∣ r := by
          have := (Nat.dvd_add_right (Nat.dvd_mul_left (2 ^ c) q)).mp (h3 ▸ hd)
          exact this
        exact Nat.eq_zero_of_dvd_of_lt h8 h4
      subst hr
      rcases h7 with ⟨h7, _⟩ | ⟨h7, h8, _⟩
      · rw [h7, show q * 2 ^ c = n by omega]; exact h
      · have := Nat.two_pow_pos c; omega
/-- the loss and the last place -/
theorem rn_loss {p n : Nat} (hp : 0 < p) : 2 ^ p * ((n : Int) - (rn p n : Nat)).natAbs ≤ n ∧ 2 ^ bl ((n : Int) - (rn p n : Nat)).natAbs ∣ rn p n := by
  rcases rn_cases (n := n) hp with ⟨_, h⟩ | ⟨c, q, r, h1, h2, h3, h4, h5, h6, h7⟩
  · rw [h, Int.sub_self]
    simp [bl_zero]
  · have e : (q + 1) * 2 ^ c = q * 2 ^ c + 2 ^ c := by rw [Nat.add_mul, Nat.one_mul]
    have hd : 2 ^ c ∣ rn p n := by
      rcases h7 with ⟨h7, _⟩ | ⟨h7, _⟩ <;> (rw [h7]; exact Nat.dvd_mul_left _ _)
    have hh : 2 * ((n : Int) - (rn p n : Nat)).natAbs ≤ 2 ^ c := by
      rw [e] at h7
      generalize q * 2 ^ c = A at *
      generalize 2 ^ c = U at *
      omega
    have ec : 2 ^ c = 2 * 2 ^ (c - 1) := by rw [show c = c - 1 + 1 by omega, Nat.pow_succ]; simp [Nat.mul_comm]
    generalize ((n : Int) - (rn p n : Nat)).natAbs = l at *
    have hl : l ≤ 2 ^ (c - 1) := by omega
    constructor
    · have h8 : 2 ^ p * l ≤ 2 ^ p * 2 ^ (c - 1) := Nat.mul_le_mul_left _ hl
      have h9 : 2 ^ p * 2 ^ (c - 1) = 2 ^ (p - 1) * 2 ^ c := by rw [← Nat.pow_add, ← Nat.pow_add]; congr 1; omega
      have h10 : 2 ^ (p - 1) * 2 ^ c ≤ q * 2 ^ c := Nat.mul_le_mul_right _ h5
      omega
    · refine Nat.dvd_trans (Nat.pow_dvd_pow 2 (bl_le_of_lt (k := c) ?_)) hd
      have := Nat.two_pow_pos (c - 1)
      omega
theorem rn_mul_pow {p n : Nat} (hp : 0 < p) (k : Nat) : rn p (n * 2 ^ k) = rn p n * 2 ^ k := by
  by_cases h0 : n = 0
  · subst h0; rw [Nat.zero_mul, rn_zero hp, Nat.zero_mul]
  by_cases hb : bl n ≤ p
  · have : rn p n = n := by unfold rn; rw [if_pos hb]
    rw [this]
    refine rn_self hp ⟨k, Nat.dvd_mul_left _ _, ?_⟩
    rw [Nat.pow_add]
    exact Nat.mul_lt_mul_of_pos_right (lt_of_bl_le hb) (Nat.two_pow_pos _)
  · have e1 := bl_mul_pow k h0
    have e2 : bl n + k - p = (bl n - p) + k := by omega
    unfold rn
    rw [if_neg hb, e1, if_neg (by omega), e2, Nat.pow_add, Nat.mul_div_mul_right _ _ (Nat.two_pow_pos k), Nat.mul_mod_mul_right]
    generalize n % 2 ^ (bl n - p) = r
    generalize n / 2 ^ (bl n - p) = q
    generalize 2 ^ (bl n - p) = U
    have hK := Nat.two_pow_pos k
    generalize 2 ^ k = K at *
    have c1 : (U * K < 2 * (r * K)) ↔ U < 2 * r := by rw [← Nat.mul_assoc]; exact ⟨fun h => Nat.lt_of_mul_lt_mul_right h, fun h => Nat.mul_lt_mul_of_pos_right h hK⟩
    have c2 : (2 * (r * K) = U * K) ↔ 2 * r = U := by rw [← Nat.mul_assoc]; exact ⟨fun h => Nat.eq_of_mul_eq_mul_right hK h, fun h => by rw [h]⟩
    by_cases hh : U < 2 * r ∨ (2 * r = U ∧ q % 2 = 1)
    · rw [if_pos hh, if_pos (hh.imp c1.mpr fun h => ⟨c2.mpr h.1, h.2⟩), Nat.mul_assoc]
    · rw [if_neg hh, if_neg (fun h => hh (h.imp c1.mp fun h => ⟨c2.mp h.1, h.2⟩)), Nat.mul_assoc]
/-- what lies in one cell between two grid points and off the middle's multiples rounds alike -/
theorem rn_sticky {p M h d1 d2 : Nat} (hp : 0 < p) (hb : p + 1 + h ≤ bl (M * 2 ^ h)) (a1 : 0 < d1) (b1 : d1 < 2 ^ h) (a2 : 0 < d2) (b2 : d2 < 2 ^ h) : rn p (M * 2 ^ h + d1) = rn p (M * 2 ^ h + d2) := by
  have hM : M ≠ 0 := by intro e; subst e; rw [Nat.zero_mul, bl_zero] at hb; omega
  have hbm := bl_mul_pow h hM
  have bits : ∀ d, d < 2 ^ h → bl (M * 2 ^ h + d) = bl M + h := by
    intro d hd
    have h1 := bl_ge hM
    have h2 := bl_lt M
    have h3 := bl_pos hM
    have e : bl M + h = (bl M - 1 + h) + 1 := by omega
    rw [e]
    refine bl_eq ?_ ?_
    · rw [Nat.pow_add]
      have := Nat.mul_le_mul_right (2 ^ h) h1
      omega
    · rw [← e, Nat.pow_add]
      have := Nat.mul_le_mul_right (2 ^ h) (show M + 1 ≤ 2 ^ bl M by omega)
      rw [Nat.add_mul, Nat.one_mul] at this
      omega
  obtain ⟨c, hc⟩ : ∃ c, bl M = p + (c + 1) := ⟨bl M - p - 1, by omega⟩
  have e1 := bits d1 b1
  have e2 := bits d2 b2
  have ec : c + 1 + h = c + 1 + h := rfl
  have key : ∀ d, 0 < d → d < 2 ^ h → bl (M * 2 ^ h + d) = bl M + h → rn p (M * 2 ^ h + d) = (if 2 ^ c ≤ M % 2 ^ (c + 1) then M / 2 ^ (c + 1) + 1 else M / 2 ^ (c + 1)) * 2 ^ (c + 1 + h) := by
    intro d hd0 hd hb
    have hM1 := Nat.div_add_mod M (2 ^ (c + 1))
    have hr := Nat.mod_lt M (Nat.two_pow_pos (c + 1))
    generalize M / 2 ^ (c + 1) = Q at *
    generalize M % 2 ^ (c + 1) = r at *
    have hn : M * 2 ^ h + d = Q * 2 ^ (c + 1 + h) + (r * 2 ^ h + d) := by
      rw [← hM1, Nat.add_mul, Nat.pow_add 2 (c + 1) h, Nat.mul_comm (2 ^ (c + 1)) Q, Nat.mul_assoc, Nat.add_assoc]
    have hrl : r * 2 ^ h + d < 2 ^ (c + 1 + h) := by
      rw [Nat.pow_add 2 (c + 1) h]
      have := Nat.mul_le_mul_right (2 ^ h) (show r + 1 ≤ 2 ^ (c + 1) by omega)
      rw [Nat.add_mul, Nat.one_mul] at this
      omega
    have hcs := rn_of_cases (p := p) (n := M * 2 ^ h + d) (c := c + 1 + h) (q := Q) (r := r * 2 ^ h + d) hp (by omega) (by omega) hn hrl
    have e3 : 2 ^ (c + 1 + h) = 2 * (2 ^ c * 2 ^ h) := by rw [← Nat.pow_add, show c + 1 + h = (c + h) + 1 by omega, Nat.pow_succ, Nat.mul_comm]
    by_cases hcm : 2 ^ c ≤ r
    · rw [if_pos hcm]
      refine hcs.2 ?_
      have := Nat.mul_le_mul_right (2 ^ h) hcm
      omega
    · rw [if_neg hcm]
      refine hcs.1 ?_
      have := Nat.mul_le_mul_right (2 ^ h) (show r + 1 ≤ 2 ^ c by omega)
      rw [Nat.add_mul, Nat.one_mul] at this
      omega
  rw [key d1 a1 b1 e1, key d2 a2 b2 e2]
/-- a number of p places stands against a small change -/
theorem rn_keep {p S n : Nat} (hp : 0 < p) (hS : RepN p S) (h : 2 ^ (p + 1) * ((n : Int) - S).natAbs < n) : rn p n = S := by
  rcases rn_cases (n := n) hp with ⟨h1, e⟩ | ⟨c, q, r, h1, h2, h3, h4, h5, h6, h7⟩
  · rw [e]
    have h2 := lt_of_bl_le h1
    have h3 : 2 ^ (p + 1) = 2 ^ p * 2 := Nat.pow_succ 2 p
    refine Classical.byContradiction fun hne => ?_
    have h4 : 2 ^ (p + 1) * 1 ≤ 2 ^ (p + 1) * ((n : Int) - S).natAbs := Nat.mul_le_mul_left _ (by omega)
    omega
  · have hg := rep_gap (c := c) hp hS h5
    have e : (q + 1) * 2 ^ c = q * 2 ^ c + 2 ^ c := by rw [Nat.add_mul, Nat.one_mul]
    -- the loss is under half a place
    have hlt : 2 * ((n : Int) - S).natAbs < 2 ^ c := by
      refine Classical.byContradiction fun hc => ?_
      have h8 : 2 ^ p * 2 ^ c ≤ 2 ^ p * (2 * ((n : Int) - S).natAbs) := Nat.mul_le_mul_left _ (by omega)
      have h9 : 2 ^ p * (2 * ((n : Int) - S).natAbs) = 2 ^ (p + 1) * ((n : Int) - S).natAbs := by rw [Nat.pow_succ, Nat.mul_assoc]
      have h10 := bl_lt n
      rw [h1, Nat.pow_add] at h10
      omega
    have hp2 : 2 ^ (p - 1) * 2 = 2 ^ p := by rw [← Nat.pow_succ]; congr 1; omega
    have hpp := Nat.two_pow_pos (p - 1)
    have hg1 := rep_gap (c := c - 1) (q := 2 * q - 1) hp hS (by omega)
    have hg2 := rep_gap (c := c) (q := q + 1) hp hS (by omega)
    have ec : 2 ^ c = 2 ^ (c - 1) * 2 := by rw [← Nat.pow_succ]; congr 1; omega
    have e1 : (2 * q - 1 + 1) * 2 ^ (c - 1) = q * 2 ^ c := by rw [show 2 * q - 1 + 1 = q * 2 by omega, ec, Nat.mul_assoc, Nat.mul_comm 2]
    have e2 : (2 * q - 1) * 2 ^ (c - 1) + 2 ^ (c - 1) = q * 2 ^ c := by rw [← e1, Nat.add_mul, Nat.one_mul]
    have e3 : (q + 1 + 1) * 2 ^ c = q * 2 ^ c + 2 ^ c + 2 ^ c := by rw [Nat.add_mul, e, Nat.one_mul]
    rw [e1] at hg1
    rw [e3, e] at hg2
    rw [e] at hg h7
    generalize (2 * q - 1) * 2 ^ (c - 1) = B at *
    generalize 2 ^ (c - 1) = V at *
    generalize q * 2 ^ c = A at *
    generalize 2 ^ c = U at *
    clear e1 e3 e hp2 hpp h hS h5 h6 h1
    rcases h7 with ⟨h7, h8, h9⟩ | ⟨h7, h8, h9⟩
    · rw [h7]; omega
    · rw [h7]; omega
end Mine

-- M7
namespace Mine
open PySem

/-- nearest, signed -/
def RN (p : Nat) (x : Int) : Int := if x < 0 then -(rn p x.natAbs : Nat) else (rn p x.natAbs : Nat)
def Rep (p : Nat) (x : Int) : Prop := RepN p x.natAbs
/-- a multiple of 2^k -/
def Dv (k : Nat) (x : Int) : Prop := ((2 ^ k : Nat) : Int) ∣ x
theorem Dv.iff {k : Nat} {x : Int} : Dv k x ↔ 2 ^ k ∣ x.natAbs := by unfold Dv; rw [← Int.natAbs_dvd_natAbs, Int.natAbs_natCast]
theorem Dv.add {k : Nat} {x y : Int} (h : Dv k x) (h' : Dv k y) : Dv k (x + y) := Int.dvd_add h h'
theorem Dv.sub {k : Nat} {x y : Int} (h : Dv k x) (h' : Dv k y) : Dv k (x - y) := Int.dvd_sub h h'
theorem Dv.neg {k : Nat} {x : Int} (h : Dv k x) : Dv k (-x) := Int.dvd_neg.mpr h
theorem Dv.mono {k j : Nat} {x : Int} (h : Dv k x) (hj : j ≤ k) : Dv j x := Dv.iff.mpr (Nat.dvd_trans (Nat.pow_dvd_pow 2 hj) (Dv.iff.mp h))
theorem Dv.zero {k : Nat} : Dv k 0 := ⟨0, by simp⟩
theorem Dv.all {x : Int} : Dv 0 x := ⟨x, by simp⟩
theorem Dv.le {k : Nat} {x : Int} (h : Dv k x) (h0 : x ≠ 0) : 2 ^ k ≤ x.natAbs := Nat.le_of_dvd (by omega) (Dv.iff.mp h)
theorem Rep.of {p k : Nat} {x : Int} (h : Dv k x) (hl : x.natAbs < 2 ^ (p + k)) : Rep p x := ⟨k, Dv.iff.mp h, hl⟩
theorem Rep.zero {p : Nat} : Rep p 0 := RepN.zero
theorem Rep.neg {p : Nat} {x : Int} (h : Rep p x) : Rep p (-x) := by unfold Rep; rw [Int.natAbs_neg]; exact h
theorem Rep.get {p : Nat} {x : Int} (h : Rep p x) : ∃ k, Dv k x ∧ x.natAbs < 2 ^ (p + k) := let ⟨k, a, b⟩ := h; ⟨k, Dv.iff.mpr a, b⟩
theorem RN_natAbs {p : Nat} {x : Int} : (RN p x).natAbs = rn p x.natAbs := by
  unfold RN; split <;> simp
theorem RN_neg {p : Nat} (hp : 0 < p) {x : Int} : RN p (-x) = -RN p x := by
  unfold RN
  rw [Int.natAbs_neg]
  by_cases h0 : x = 0
  · subst h0; simp [rn_zero hp]
  · by_cases h : x < 0
    · rw [if_pos h, if_neg (by omega)]; simp
    · rw [if_neg h, if_pos (by omega)]
theorem RN_zero {p : Nat} (hp : 0 < p) : RN p 0 = 0 := by unfold RN; simp [rn_zero hp]
theorem RN_nonneg {p : Nat} {x : Int} (h : 0 ≤ x) : RN p x = (rn p x.natAbs : Nat) := by unfold RN; rw [if_neg (by omega)]
theorem RN_near0 {p : Nat} (hp : 0 < p) {x y : Int} (hx : 0 ≤ x) (hy : Rep p y) : (x - RN p x).natAbs ≤ (x - y).natAbs := by
  rw [RN_nonneg hx]
  have hn := rn_near (n := x.natAbs) hp hy
  have h0 := rn_near (n := x.natAbs) hp (RepN.zero)
  omega
theorem RN_near {p : Nat} (hp : 0 < p) {x y : Int} (hy : Rep p y) : (x - RN p x).natAbs ≤ (x - y).natAbs := by
  by_cases hx : 0 ≤ x
  · exact RN_near0 hp hx hy
  · have := RN_near0 hp (x := -x) (by omega) hy.neg
    rw [RN_neg hp] at this
    omega
theorem RN_rep {p : Nat} (hp : 0 < p) {x : Int} : Rep p (RN p x) := by unfold Rep; rw [RN_natAbs]; exact RepN.rn hp
theorem RN_self {p : Nat} (hp : 0 < p) {x : Int} (h : Rep p x) : RN p x = x := by
  have := RN_near hp (x := x) h
  omega
theorem RN_ge {p : Nat} (hp : 0 < p) {x y : Int} (hy : Rep p y) (h : y ≤ x) : y ≤ RN p x := by
  have := RN_near hp (x := x) hy
  omega
theorem RN_le {p : Nat} (hp : 0 < p) {x y : Int} (hy : Rep p y) (h : x ≤ y) : RN p x ≤ y := by
  have := RN_near hp (x := x) hy
  omega
theorem RN_dv {p k : Nat} (hp : 0 < p) {x : Int} (h : Dv k x) : Dv k (RN p x) := by
  rw [Dv.iff, RN_natAbs]; exact rn_dvd hp (Dv.iff.mp h)
theorem RN_err {p : Nat} {x : Int} : (x - RN p x).natAbs = ((x.natAbs : Int) - (rn p x.natAbs : Nat)).natAbs := by
  unfold RN; split <;> omega
theorem RN_loss {p : Nat} (hp : 0 < p) {x : Int} : 2 ^ p * (x - RN p x).natAbs ≤ x.natAbs := by
  rw [RN_err]; exact (rn_loss hp).1
theorem RN_last {p : Nat} (hp : 0 < p) {x : Int} : Dv (bl (x - RN p x).natAbs) (RN p x) := by
  rw [RN_err, Dv.iff, RN_natAbs]; exact (rn_loss hp).2
theorem RN_two {p : Nat} (hp : 0 < p) {x : Int} : RN p (2 * x) = 2 * RN p x := by
  have e : (2 * x).natAbs = x.natAbs * 2 ^ 1 := by omega
  unfold RN
  rw [e, rn_mul_pow hp]
  by_cases h : x < 0
  · rw [if_pos h, if_pos (by omega)]; omega
  · rw [if_neg h, if_neg (by omega)]; omega
theorem RN_ne {p : Nat} (hp : 0 < p) {x : Int} (h : x ≠ 0) : RN p x ≠ 0 := by
  have := rn_ne (p := p) (n := x.natAbs) (by omega) hp
  have h2 := RN_natAbs (p := p) (x := x)
  omega
theorem Rep.pow {p k : Nat} (hp : 0 < p) : Rep p ((2 ^ k : Nat) : Int) := by unfold Rep; rw [Int.natAbs_natCast]; exact RepN.pow hp
theorem RN_bound {p k : Nat} (hp : 0 < p) {x : Int} (h : x.natAbs ≤ 2 ^ k) : (RN p x).natAbs ≤ 2 ^ k := by
  have h1 := RN_le hp (x := x) (Rep.pow (k := k) hp) (by omega)
  have h2 := RN_ge hp (x := x) (Rep.pow (k := k) hp).neg (by omega)
  omega
theorem Rep.two {p : Nat} {x : Int} (h : Rep p x) : Rep p (2 * x) := by
  obtain ⟨k, h1, h2⟩ := h.get
  refine Rep.of (k := k + 1) ?_ ?_
  · obtain ⟨z, rfl⟩ := h1
    exact ⟨z, by rw [Nat.pow_succ]; push_cast; rw [Int.mul_comm _ 2, Int.mul_assoc]⟩
  · rw [show p + (k + 1) = p + k + 1 by omega, Nat.pow_succ]; omega

/-- two that are near one another: their difference has no more places -/
theorem sterbenz {p : Nat} {x y : Int} (hx : Rep p x) (hy : Rep p y) (h0 : 0 ≤ x) (h1 : x ≤ y) (h2 : y ≤ 2 * x) : Rep p (y - x) := by
  obtain ⟨j, a, b⟩ := hx.get
  obtain ⟨k, c, e⟩ := hy.get
  by_cases hjk : j ≤ k
  · exact Rep.of (k := j) ((c.mono hjk).sub a) (by omega)
  · exact Rep.of (k := k) (c.sub (a.mono (by omega))) (by omega)
theorem Rep.swap {p : Nat} {x y : Int} (h : Rep p (x - y)) : Rep p (y - x) := by
  have := h.neg
  rwa [Int.neg_sub] at this
/-- what an addition loses has no more places -/
theorem rep_loss {p : Nat} (hp : 0 < p) {a b : Int} (ha : Rep p a) (hb : Rep p b) : Rep p (a + b - RN p (a + b)) := by
  have h1 := RN_near hp (x := a + b) ha
  have h2 := RN_near hp (x := a + b) hb
  obtain ⟨j, c, d⟩ := ha.get
  obtain ⟨k, e, f⟩ := hb.get
  by_cases hjk : j ≤ k
  · have hd := c.add (e.mono hjk)
    exact Rep.of (k := j) (hd.sub (RN_dv hp hd)) (by omega)
  · have hd := (c.mono (show k ≤ j by omega)).add e
    exact Rep.of (k := k) (hd.sub (RN_dv hp hd)) (by omega)
theorem fast_pos {p : Nat} (hp : 0 < p) {a b : Int} (ha : Rep p a) (hb : Rep p b) (h0 : 0 ≤ a) (h : b.natAbs ≤ a.natAbs) : Rep p (RN p (a + b) - a) := by
  by_cases hb0 : 0 ≤ b
  · have h1 := RN_ge hp (x := a + b) ha (by omega)
    have h2 := RN_le hp (x := a + b) ha.two (by omega)
    exact sterbenz ha (RN_rep hp) h0 h1 h2
  · by_cases h3 : a ≤ 2 * (-b)
    · have h4 := sterbenz (x := -b) (y := a) hb.neg ha (by omega) (by omega) h3
      rw [show a - -b = a + b by omega] at h4
      rw [RN_self hp h4, show a + b - a = b by omega]
      exact hb
    · have h1 := RN_le hp (x := a + b) ha (by omega)
      have h2 := RN_ge hp (x := 2 * (a + b)) ha (by omega)
      rw [RN_two hp] at h2
      exact (sterbenz (RN_rep hp) ha (by omega) h1 h2).swap
/-- Dekker: the greater one first -/
theorem fast {p : Nat} (hp : 0 < p) {a b : Int} (ha : Rep p a) (hb : Rep p b) (h : b.natAbs ≤ a.natAbs) : Rep p (RN p (a + b) - a) := by
  by_cases h0 : 0 ≤ a
  · exact fast_pos hp ha hb h0 h
  · have := (fast_pos hp ha.neg hb.neg (by omega) (by omega)).neg
    rw [show -a + -b = -(a + b) by omega, RN_neg hp] at this
    rw [show RN p (a + b) - a = -(-RN p (a + b) - -a) by omega]
    exact this
/-- Knuth: six sums give the loss -/
theorem two_sum_pos {p : Nat} (hp : 3 ≤ p) {a b : Int} (ha : Rep p a) (hb : Rep p b) (hb0 : 0 ≤ b) (h : a.natAbs < b.natAbs) :
    Rep p (b - RN p (RN p (a + b) - a)) ∧ Rep p (RN p (a + b) - RN p (RN p (a + b) - a)) ∧ Rep p (a - (RN p (a + b) - RN p (RN p (a + b) - a))) := by
  have hp0 : 0 < p := by omega
  by_cases hex : Rep p (a + b)
  · have e1 : RN p (a + b) = a + b := RN_self hp0 hex
    have e2 : a + b - a = b := by omega
    have e3 : a + b - b = a := by omega
    rw [e1, e2, RN_self hp0 hb, e3, Int.sub_self, Int.sub_self]
    exact ⟨Rep.zero, ha, Rep.zero⟩
  · have hlow : ¬ (b ≤ 2 * (-a)) := fun h3 => hex (by
      have h4 := sterbenz (x := -a) (y := b) ha.neg hb (by omega) (by omega) h3
      rwa [show b - -a = a + b by omega] at h4)
    have hs : a.natAbs ≤ (RN p (a + b)).natAbs := by
      have hra : Rep p (a.natAbs : Int) := by unfold Rep; rw [Int.natAbs_natCast]; exact ha
      have := RN_ge hp0 (x := a + b) hra (by omega)
      omega
    have hS : Rep p (RN p (a + b)) := RN_rep hp0
    have h8 : 2 ^ 3 ≤ 2 ^ p := pow_le_of hp
    have l1 := RN_loss hp0 (x := a + b)
    have l2 := RN_loss hp0 (x := RN p (a + b) - a)
    have m1 := Nat.mul_le_mul_right (a + b - RN p (a + b)).natAbs h8
    have m2 := Nat.mul_le_mul_right (RN p (a + b) - a - RN p (RN p (a + b) - a)).natAbs h8
    have f := fast hp0 hS ha.neg (by omega)
    have g := rep_loss hp0 hS ha.neg
    rw [show RN p (a + b) + -a = RN p (a + b) - a by omega] at f g
    have hB : Rep p (RN p (RN p (a + b) - a)) := RN_rep hp0
    generalize RN p (RN p (a + b) - a) = B at *
    generalize RN p (a + b) = S at *
    refine ⟨?_, f.swap, ?_⟩
    · by_cases hc : b ≤ B
      · exact (sterbenz hb hB hb0 hc (by omega)).swap
      · exact sterbenz hB hb (by omega) (by omega) (by omega)
    · have := g.neg
      rw [show -(S - a - B) = a - (S - B) by omega] at this
      exact this
theorem two_sum {p : Nat} (hp : 3 ≤ p) {a b : Int} (ha : Rep p a) (hb : Rep p b) :
    Rep p (b - RN p (RN p (a + b) - a)) ∧ Rep p (RN p (a + b) - RN p (RN p (a + b) - a)) ∧ Rep p (a - (RN p (a + b) - RN p (RN p (a + b) - a))) := by
  have hp0 : 0 < p := by omega
  by_cases h : b.natAbs ≤ a.natAbs
  · have f := fast hp0 ha hb h
    have g := rep_loss hp0 ha hb
    rw [RN_self hp0 f, show RN p (a + b) - (RN p (a + b) - a) = a by omega, Int.sub_self, show b - (RN p (a + b) - a) = a + b - RN p (a + b) by omega]
    exact ⟨g, ha, Rep.zero⟩
  · by_cases hb0 : 0 ≤ b
    · exact two_sum_pos hp ha hb hb0 (by omega)
    · obtain ⟨h1, h2, h3⟩ := two_sum_pos hp ha.neg hb.neg (by omega) (by omega)
      have e1 : RN p (-a + -b) = -RN p (a + b) := by rw [show -a + -b = -(a + b) by omega, RN_neg hp0]
      have e2 : RN p (-RN p (a + b) - -a) = -RN p (RN p (a + b) - a) := by rw [show -RN p (a + b) - -a = -(RN p (a + b) - a) by omega, RN_neg hp0]
      rw [e1, e2] at h1 h2 h3
      have h1 := h1.neg
      have h2 := h2.neg
      have h3 := h3.neg
      rw [show -(-b - -RN p (RN p (a + b) - a)) = b - RN p (RN p (a + b) - a) by omega] at h1
      rw [show -(-RN p (a + b) - -RN p (RN p (a + b) - a)) = RN p (a + b) - RN p (RN p (a + b) - a) by omega] at h2
      rw [show -(-a - (-RN p (a + b) - -RN p (RN p (a + b) - a))) = a - (RN p (a + b) - RN p (RN p (a + b) - a)) by omega] at h3
      exact ⟨h1, h2, h3⟩
/-- what the six roundings come to -/
theorem two_steps {p : Nat} (hp : 3 ≤ p) {a b : Int} (ha : Rep p a) (hb : Rep p b) :
    let s := RN p (a + b)
    let back := RN p (s - a)
    let left := RN p (s - back)
    RN p (RN p (a - left) + RN p (b - back)) = a + b - s := by
  have hp0 : 0 < p := by omega
  obtain ⟨h1, h2, h3⟩ := two_sum hp ha hb
  have g := rep_loss hp0 ha hb
  dsimp only
  rw [RN_self hp0 h2, RN_self hp0 h1, RN_self hp0 h3]
  rw [show a - (RN p (a + b) - RN p (RN p (a + b) - a)) + (b - RN p (RN p (a + b) - a)) = a + b - RN p (a + b) by omega]
  exact RN_self hp0 g
end Mine

-- M8
namespace Mine
open PySem

theorem repN_iff {p n : Nat} (hn : n ≠ 0) : RepN p n ↔ bl (od n) ≤ p := by
  constructor
  · rintro ⟨k, ⟨z, hz⟩, hl⟩
    have hz0 : z ≠ 0 := by intro e; subst e; exact hn (by rw [hz, Nat.mul_zero])
    rw [Nat.mul_comm] at hz
    rw [hz, od_mul_pow k hz0]
    refine Nat.le_trans (bl_od_le z) (bl_le_of_lt ?_)
    rw [hz, Nat.pow_add] at hl
    exact Nat.lt_of_mul_lt_mul_right hl
  · intro h
    refine ⟨tz n, ⟨od n, by rw [Nat.mul_comm, od_eq]⟩, ?_⟩
    conv => lhs; rw [← od_eq n]
    rw [Nat.pow_add]
    exact Nat.mul_lt_mul_of_pos_right (lt_of_bl_le h) (Nat.two_pow_pos _)
theorem rep_iff {p : Nat} {x : Int} : Rep p x ↔ bl (od x.natAbs) ≤ p := by
  by_cases h : x.natAbs = 0
  · unfold Rep
    rw [h]
    have : od 0 = 0 := by unfold od; simp
    rw [this, bl_zero]
    exact ⟨fun _ => Nat.zero_le _, fun _ => RepN.zero⟩
  · exact repN_iff h
theorem rn_far {p A B : Nat} (hp : 0 < p) (hA : A ≠ 0) (hB : 0 < B) (h1 : bl B + p + 5 ≤ bl A) (hj : p + 4 ≤ tz A) (hh : RepN p A ∨ B < 2 ^ tz A) :
    rn p (A + B) = rn p (A + 2 ^ (tz A - (p + 4))) ∧ rn p (A - B) = rn p (A - 2 ^ (tz A - (p + 4))) := by
  have hD : 0 < 2 ^ (tz A - (p + 4)) := Nat.two_pow_pos _
  have hDt : 2 ^ (tz A - (p + 4)) * 2 ^ (p + 4) = 2 ^ tz A := by rw [← Nat.pow_add]; congr 1; omega
  have hAt : 2 ^ tz A ≤ A := by
    conv => rhs; rw [← od_eq A]
    have := od_ne hA
    exact Nat.le_mul_of_pos_left _ (by omega)
  have hp4 : 2 ^ (p + 4) = 2 ^ (p + 1) * 8 := by rw [show p + 4 = p + 1 + 3 by omega, Nat.pow_add]
  have hp1 : 2 ≤ 2 ^ (p + 1) := by rw [Nat.pow_succ]; have := Nat.two_pow_pos p; omega
  have hBA : 2 ^ (p + 1) * B * 8 ≤ A := by
    have a1 := bl_lt B
    have a2 := bl_ge hA
    have a3 : 2 ^ (p + 1) * B ≤ 2 ^ (p + 1) * 2 ^ bl B := Nat.mul_le_mul_left _ (Nat.le_of_lt a1)
    have a4 : 2 ^ (p + 1) * 2 ^ bl B * 8 = 2 ^ (p + 4 + bl B) := by rw [show p + 4 + bl B = p + 1 + bl B + 3 by omega, Nat.pow_add 2 _ 3, ← Nat.pow_add]
    have a5 : 2 ^ (p + 4 + bl B) ≤ 2 ^ (bl A - 1) := pow_le_of (by omega)
    omega
  have hDA : 2 ^ (p + 1) * 2 ^ (tz A - (p + 4)) * 8 ≤ A := by
    have : 2 ^ (p + 1) * 2 ^ (tz A - (p + 4)) * 8 = 2 ^ tz A := by rw [← hDt, hp4, Nat.mul_comm (2 ^ (p + 1)), Nat.mul_assoc]
    omega
  by_cases hR : RepN p A
  · have keep : ∀ d, 2 ^ (p + 1) * d * 8 ≤ A → rn p (A + d) = A ∧ rn p (A - d) = A := by
      intro d hd
      have b1 : 2 * d ≤ 2 ^ (p + 1) * d := Nat.mul_le_mul_right _ hp1
      generalize hz : 2 ^ (p + 1) * d = Z at *
      constructor
      · refine rn_keep hp hR ?_
        rw [show (((A + d : Nat) : Int) - (A : Nat)).natAbs = d by omega, hz]
        omega
      · refine rn_keep hp hR ?_
        rw [show (((A - d : Nat) : Int) - (A : Nat)).natAbs = d by omega, hz]
        omega
    rw [(keep _ hBA).1, (keep _ hBA).2, (keep _ hDA).1, (keep _ hDA).2]
    exact ⟨rfl, rfl⟩
  · have hBt := hh.resolve_left hR
    have hDl : 2 ^ (tz A - (p + 4)) < 2 ^ tz A := Nat.pow_lt_pow_right (by decide) (by omega)
    have hb := bl_od hA
    have hR' : ¬ bl (od A) ≤ p := fun h => hR ((repN_iff hA).mpr h)
    have e := od_eq A
    have ho := od_odd hA
    have ho0 := od_ne hA
    constructor
    · have := rn_sticky (p := p) (M := od A) (h := tz A) hp (by rw [e]; omega) hB hBt hD hDl
      rwa [e] at this
    · have g1 := bl_ge ho0
      have g2 := bl_lt (od A)
      have hod1 : od A - 1 ≠ 0 := by
        intro h0
        have : od A = 1 := by omega
        rw [this] at hR'
        exact hR' (bl_le_of_lt (Nat.one_lt_two_pow (by omega)))
      have g3 : bl (od A - 1) = bl (od A) := by
        obtain ⟨c, hc⟩ : ∃ c, bl (od A) = c + 2 := ⟨bl (od A) - 2, by omega⟩
        rw [hc] at g1 g2 ⊢
        have h6 : 2 ^ (c + 1) = 2 * 2 ^ c := by rw [Nat.mul_comm, ← Nat.pow_succ]
        rw [show c + 2 - 1 = c + 1 by omega] at g1
        exact bl_eq (k := c + 1) (by omega) (by rw [show c + 1 + 1 = c + 2 by omega]; omega)
      have g4 := bl_mul_pow (tz A) hod1
      have := rn_sticky (p := p) (M := od A - 1) (h := tz A) (d1 := 2 ^ tz A - B) (d2 := 2 ^ tz A - 2 ^ (tz A - (p + 4))) hp (by omega) (by omega) (by omega) (by omega) (by omega)
      have e2 : (od A - 1) * 2 ^ tz A = A - 2 ^ tz A := by rw [Nat.sub_mul, e, Nat.one_mul]
      rw [e2] at this
      rwa [show A - 2 ^ tz A + (2 ^ tz A - B) = A - B by omega, show A - 2 ^ tz A + (2 ^ tz A - 2 ^ (tz A - (p + 4))) = A - 2 ^ (tz A - (p + 4)) by omega] at this

theorem RN_mul_pow {p : Nat} (hp : 0 < p) (x : Int) (k : Nat) : RN p (x * 2 ^ k) = RN p x * 2 ^ k := by
  have hP := PySem.W.kbt_pos k
  have e : (x * 2 ^ k).natAbs = x.natAbs * 2 ^ k := by rw [Int.natAbs_mul, ← PySem.W.kbt_cast, Int.natAbs_natCast]
  unfold RN
  rw [e, rn_mul_pow hp]
  push_cast
  by_cases h : x < 0
  · rw [if_pos h, if_pos (Int.mul_neg_of_neg_of_pos h hP), Int.neg_mul]
  · rw [if_neg h, if_neg]
    have := Int.mul_nonneg (show 0 ≤ x by omega) (Int.le_of_lt hP)
    omega
def sgv (s x : Int) : Int := if s = 0 then x else -x
theorem fm_RN {p : Nat} (hp : 0 < p) {low V : Int} (hV : V ≠ 0) : fm low (RN p V) = nf (if V < 0 then 1 else 0) (rn p V.natAbs) low := by
  have := fm_rn (low := low) (pr := (p : Nat)) hV (by omega)
  rw [Int.toNat_natCast] at this
  exact this
theorem nfI_RN {p : Nat} (hp : 0 < p) {sg C e V : Int} (hs : sg = 0 ∨ sg = 1) (hV : V = sgv sg C) (hC : 0 < C) : nfI sg C e (p : Nat) = fm e (RN p V) := by
  unfold nfI
  rw [Int.toNat_natCast]
  unfold sgv at hV
  rcases hs with rfl | rfl
  · rw [if_pos rfl] at hV
    rw [fm_RN hp (by omega), if_neg (by omega), show V.natAbs = C.natAbs by omega]
  · rw [if_neg (by decide)] at hV
    rw [fm_RN hp (by omega), if_pos (by omega), show V.natAbs = C.natAbs by omega]
theorem nfI_signed {p : Nat} (hp : 0 < p) {V e : Int} : (if 0 ≤ V then nfI 0 V e (p : Nat) else nfI 1 (-V) e (p : Nat)) = fm e (RN p V) := by
  by_cases h0 : V = 0
  · subst h0
    rw [if_pos (by decide), RN_zero hp, fm_zero]
    unfold nfI nf
    rw [Int.toNat_natCast, show (0 : Int).natAbs = 0 from rfl, rn_zero hp, if_pos rfl]
  · by_cases h : 0 ≤ V
    · rw [if_pos h]
      exact nfI_RN hp (.inl rfl) (by unfold sgv; rw [if_pos rfl]) (by omega)
    · rw [if_neg h]
      exact nfI_RN hp (.inr rfl) (by unfold sgv; rw [if_neg (by decide)]; omega) (by omega)
theorem paS_gen {p : Nat} (hp : 0 < p) {sg ts q C D E e V : Int} (hs : sg = 0 ∨ sg = 1) (h1 : sg = ts → 0 < C ∧ V = sgv sg C) (h2 : sg ≠ ts → q = 0 → V = E) (h3 : sg ≠ ts → q ≠ 0 → V = D) :
    paS sg ts q C D E e (p : Nat) = fm e (RN p V) := by
  unfold paS
  by_cases h : sg = ts
  · rw [if_pos h]; exact nfI_RN hp hs (h1 h).2 (h1 h).1
  · rw [if_neg h]
    by_cases hq : q = 0
    · rw [if_pos hq, ← h2 h hq]; exact nfI_signed hp
    · rw [if_neg hq, ← h3 h hq]; exact nfI_signed hp
theorem xor0 {x : Int} (h : x = 0 ∨ x = 1) : Builtin.bitXor x 0 = x := by rcases h with rfl | rfl <;> decide +kernel
theorem xor1 {x : Int} (h : x = 0 ∨ x = 1) : Builtin.bitXor x 1 = 1 - x := by rcases h with rfl | rfl <;> decide +kernel
/-- a number and its parts -/
theorem fm_parts {low a : Int} (h : a ≠ 0) : fm low a = ⟨if a < 0 then 1 else 0, (od a.natAbs : Nat), low + (tz a.natAbs : Nat), (bl (od a.natAbs) : Nat)⟩ := by unfold fm nf; rw [if_neg (by omega)]
theorem fm_signed {a : Int} : sgv (if a < 0 then 1 else 0) ((od a.natAbs : Nat) : Int) * 2 ^ tz a.natAbs = a := by
  have e := od_eq a.natAbs
  rw [← PySem.W.kbt_cast]
  have e3 : ((od a.natAbs : Nat) : Int) * ((2 ^ tz a.natAbs : Nat) : Int) = (a.natAbs : Nat) := by rw [← Int.natCast_mul, e]
  unfold sgv
  by_cases hn : a < 0
  · rw [if_pos hn, if_neg (by decide), Int.neg_mul, e3]; omega
  · rw [if_neg hn, if_pos rfl, e3]; omega
theorem sgv_mul {s x y : Int} : sgv s (x * y) = sgv s x * y := by unfold sgv; split <;> simp [Int.neg_mul]
theorem sg01 {a : Int} : (if a < 0 then (1 : Int) else 0) = 0 ∨ (if a < 0 then (1 : Int) else 0) = 1 := by split <;> simp
/-- the near sums -/
theorem paUp_fm {p : Nat} (hp : 0 < p) {low a b : Int} (ha : a ≠ 0) (hb : b ≠ 0) (hle : tz b.natAbs ≤ tz a.natAbs) :
    paUp (fm low a) (fm low b) (fm low b).s (p : Nat) = fm low (RN p (a + b)) := by
  have hoa := od_ne (n := a.natAbs) (by omega)
  have hob := od_ne (n := b.natAbs) (by omega)
  unfold paUp
  rw [fm_parts ha, fm_parts hb]
  dsimp only
  have ek : (low + (tz a.natAbs : Nat) - (low + (tz b.natAbs : Nat))).toNat = tz a.natAbs - tz b.natAbs := by omega
  rw [ek]
  have hA : (0 : Int) < (od a.natAbs : Nat) * 2 ^ (tz a.natAbs - tz b.natAbs) := Int.mul_pos (by omega) (PySem.W.kbt_pos _)
  have hVa : sgv (if a < 0 then 1 else 0) ((od a.natAbs : Nat) * 2 ^ (tz a.natAbs - tz b.natAbs)) * 2 ^ tz b.natAbs = a := by
    conv => rhs; rw [← fm_signed (a := a)]
    rw [sgv_mul, Int.mul_assoc, ← Int.pow_add]
    congr 2; omega
  have hVb := fm_signed (a := b)
  generalize ((od a.natAbs : Nat) : Int) * 2 ^ (tz a.natAbs - tz b.natAbs) = A at *
  have hV : (sgv (if a < 0 then 1 else 0) A + sgv (if b < 0 then 1 else 0) (od b.natAbs : Nat)) * 2 ^ tz b.natAbs = a + b := by rw [Int.add_mul, hVa, hVb]
  have hO : (0 : Int) < (od b.natAbs : Nat) := by omega
  rw [paS_gen (V := sgv (if a < 0 then 1 else 0) A + sgv (if b < 0 then 1 else 0) (od b.natAbs : Nat)) hp sg01]
  · rw [← hV, RN_mul_pow hp]
    exact fm_scale (j := tz b.natAbs) (k := 0) (by simp) (by omega)
  · intro hs
    refine ⟨by omega, ?_⟩
    unfold sgv
    rw [← hs]
    split <;> omega
  · intro hs hq
    unfold sgv
    rw [if_pos hq, if_neg (by omega)]
    omega
  · intro hs hq
    have h01 := sg01 (a := b)
    have h02 := sg01 (a := a)
    unfold sgv
    rw [if_neg hq, if_pos (by omega)]
    omega
theorem paLo_fm {p : Nat} (hp : 0 < p) {low a b : Int} (ha : a ≠ 0) (hb : b ≠ 0) (hle : tz a.natAbs ≤ tz b.natAbs) :
    paLo (fm low a) (fm low b) (fm low b).s (p : Nat) = fm low (RN p (a + b)) := by
  have hoa := od_ne (n := a.natAbs) (by omega)
  have hob := od_ne (n := b.natAbs) (by omega)
  unfold paLo
  rw [fm_parts ha, fm_parts hb]
  dsimp only
  have ek : (-(low + (tz a.natAbs : Nat) - (low + (tz b.natAbs : Nat)))).toNat = tz b.natAbs - tz a.natAbs := by omega
  rw [ek]
  have hA : (0 : Int) < (od b.natAbs : Nat) * 2 ^ (tz b.natAbs - tz a.natAbs) := Int.mul_pos (by omega) (PySem.W.kbt_pos _)
  have hVa : sgv (if b < 0 then 1 else 0) ((od b.natAbs : Nat) * 2 ^ (tz b.natAbs - tz a.natAbs)) * 2 ^ tz a.natAbs = b := by
    conv => rhs; rw [← fm_signed (a := b)]
    rw [sgv_mul, Int.mul_assoc, ← Int.pow_add]
    congr 2; omega
  have hVb := fm_signed (a := a)
  generalize ((od b.natAbs : Nat) : Int) * 2 ^ (tz b.natAbs - tz a.natAbs) = A at *
  have hV : (sgv (if b < 0 then 1 else 0) A + sgv (if a < 0 then 1 else 0) (od a.natAbs : Nat)) * 2 ^ tz a.natAbs = a + b := by rw [Int.add_mul, hVa, hVb]; omega
  have hO : (0 : Int) < (od a.natAbs : Nat) := by omega
  rw [paS_gen (V := sgv (if b < 0 then 1 else 0) A + sgv (if a < 0 then 1 else 0) (od a.natAbs : Nat)) hp sg01]
  · rw [← hV, RN_mul_pow hp]
    exact fm_scale (j := tz a.natAbs) (k := 0) (by simp) (by omega)
  · intro hs
    refine ⟨by omega, ?_⟩
    unfold sgv
    rw [← hs]
    split <;> omega
  · intro hs hq
    unfold sgv
    rw [if_pos hq, if_neg (by omega)]
    omega
  · intro hs hq
    have h01 := sg01 (a := b)
    have h02 := sg01 (a := a)
    unfold sgv
    rw [if_neg hq, if_pos (by omega)]
    omega
theorem paEq_fm {p : Nat} (hp : 0 < p) {low a b : Int} (ha : a ≠ 0) (hb : b ≠ 0) (hle : tz b.natAbs = tz a.natAbs) :
    paEq (fm low a) (fm low b) (fm low b).s (p : Nat) = fm low (RN p (a + b)) := by
  rw [← paUp_fm hp ha hb (by omega)]
  unfold paEq paUp
  rw [fm_parts ha, fm_parts hb]
  dsimp only
  rw [show (low + (tz a.natAbs : Nat) - (low + (tz b.natAbs : Nat))).toNat = 0 by omega, Int.pow_zero, Int.mul_one]
/-- the far sums -/
theorem paBig_fm {p : Nat} (hp : 0 < p) (hp2 : p ≤ 50) {low a b : Int} (ha : a ≠ 0) (hb : b ≠ 0) (h1 : bl b.natAbs + p + 5 ≤ bl a.natAbs) (hj : tz b.natAbs + 100 < tz a.natAbs) (hr : Rep p a ∨ Rep p b) :
    (if (fm low a).s = (fm low b).s then nfI (fm low a).s ((fm low a).m * 2 ^ ((p : Int) + 4).toNat + 1) ((fm low a).e - ((p : Int) + 4)) (p : Nat) else nfI (fm low a).s ((fm low a).m * 2 ^ ((p : Int) + 4).toNat - 1) ((fm low a).e - ((p : Int) + 4)) (p : Nat)) = fm low (RN p (a + b)) := by
  have hA0 : a.natAbs ≠ 0 := by omega
  have hB0 : 0 < b.natAbs := by omega
  have hblt := bl_lt b.natAbs
  have hag := bl_ge hA0
  have hlt : b.natAbs < a.natAbs := by
    have : 2 ^ bl b.natAbs ≤ 2 ^ (bl a.natAbs - 1) := pow_le_of (by omega)
    omega
  have hfar := rn_far (A := a.natAbs) (B := b.natAbs) hp hA0 hB0 h1 (by omega) (by
    refine hr.imp id fun h => ?_
    have h2 := rep_iff.mp h
    have h3 := bl_od (n := b.natAbs) (by omega)
    exact Nat.lt_of_lt_of_le hblt (pow_le_of (by omega)))
  have hoa := od_ne hA0
  rw [fm_parts ha, fm_parts hb]
  dsimp only
  have e4 : ((p : Int) + 4).toNat = p + 4 := by omega
  have e5 : a.natAbs = od a.natAbs * 2 ^ (p + 4) * 2 ^ (tz a.natAbs - (p + 4)) := by
    rw [Nat.mul_assoc, ← Nat.pow_add, show p + 4 + (tz a.natAbs - (p + 4)) = tz a.natAbs by omega, od_eq]
  have e6 : (low + (tz a.natAbs : Nat) - ((p : Int) + 4)) = low + ((tz a.natAbs - (p + 4) : Nat) : Int) := by omega
  have hP := Nat.two_pow_pos (p + 4)
  have hge : 1 ≤ od a.natAbs * 2 ^ (p + 4) := Nat.mul_pos (by omega) hP
  have hsum : a + b ≠ 0 := by omega
  have hsg : (a + b < 0) ↔ a < 0 := by omega
  rw [e4, e6]
  unfold nfI
  rw [Int.toNat_natCast, fm_RN hp hsum, ← PySem.W.kbt_cast]
  have eU : (((od a.natAbs : Nat) : Int) * ((2 ^ (p + 4) : Nat) : Int) + 1).natAbs = od a.natAbs * 2 ^ (p + 4) + 1 := by
    rw [← Int.natCast_mul]; omega
  have eD : (((od a.natAbs : Nat) : Int) * ((2 ^ (p + 4) : Nat) : Int) - 1).natAbs = od a.natAbs * 2 ^ (p + 4) - 1 := by
    rw [← Int.natCast_mul]; omega
  rw [eU, eD]
  have es : (if a + b < 0 then (1 : Int) else 0) = if a < 0 then 1 else 0 := by
    by_cases h : a < 0
    · rw [if_pos h, if_pos (hsg.mpr h)]
    · rw [if_neg h, if_neg (fun k => h (hsg.mp k))]
  rw [es]
  by_cases hs : (if a < 0 then (1 : Int) else 0) = if b < 0 then 1 else 0
  · rw [if_pos hs]
    have hab : (a + b).natAbs = a.natAbs + b.natAbs := by
      by_cases h : a < 0
      · by_cases h' : b < 0
        · omega
        · rw [if_pos h, if_neg h'] at hs; exact absurd hs (by decide)
      · by_cases h' : b < 0
        · rw [if_neg h, if_pos h'] at hs; exact absurd hs (by decide)
        · omega
    rw [hab, hfar.1, ← nf_mul_pow, ← rn_mul_pow hp, Nat.add_mul, ← e5, Nat.one_mul]
  · rw [if_neg hs]
    have hab : (a + b).natAbs = a.natAbs - b.natAbs := by
      by_cases h : a < 0
      · by_cases h' : b < 0
        · rw [if_pos h, if_pos h'] at hs; exact absurd rfl hs
        · omega
      · by_cases h' : b < 0
        · omega
        · rw [if_neg h, if_neg h'] at hs; exact absurd rfl hs
    rw [hab, hfar.2, ← nf_mul_pow, ← rn_mul_pow hp, Nat.sub_mul, ← e5, Nat.one_mul]
theorem nfI_fm {p : Nat} (hp : 0 < p) {low a : Int} (ha : a ≠ 0) : nfI (fm low a).s (fm low a).m (fm low a).e (p : Nat) = fm low (RN p a) := by
  have hoa := od_ne (n := a.natAbs) (by omega)
  rw [fm_parts ha]
  dsimp only
  rw [nfI_RN (V := sgv (if a < 0 then 1 else 0) (od a.natAbs : Nat)) hp sg01 rfl (by omega)]
  conv => rhs; rw [← fm_signed (a := a)]
  rw [RN_mul_pow hp]
  exact fm_scale (j := tz a.natAbs) (k := 0) (by simp) (by omega)
/-- mpf_add: the sum rounded once -/
theorem pyAdd_fm {p : Nat} (hp : 0 < p) (hp2 : p ≤ 50) {low a b : Int} (hr : Rep p a ∨ Rep p b) : pyAdd (fm low a) (fm low b) (p : Nat) 0 = fm low (RN p (a + b)) := by
  have hx := xor0 (fm_is low b).s
  unfold pyAdd
  rw [hx]
  by_cases ha : a = 0
  · rw [if_pos ((fm_is low a).v0.mpr ha), ha, Int.zero_add]
    by_cases hb : b = 0
    · rw [if_pos ((fm_is low b).v0.mpr hb), hb, RN_zero hp]
    · rw [if_neg (fun h => hb ((fm_is low b).v0.mp h))]
      exact nfI_fm hp hb
  · rw [if_neg (fun h => ha ((fm_is low a).v0.mp h))]
    by_cases hb : b = 0
    · rw [if_pos ((fm_is low b).v0.mpr hb), hb, Int.add_zero]
      exact nfI_fm hp ha
    · rw [if_neg (fun h => hb ((fm_is low b).v0.mp h))]
      have ea : (fm low a).e = low + (tz a.natAbs : Nat) := by rw [fm_parts ha]
      have eb : (fm low b).e = low + (tz b.natAbs : Nat) := by rw [fm_parts hb]
      have ba : (fm low a).b = (bl (od a.natAbs) : Nat) := by rw [fm_parts ha]
      have bb : (fm low b).b = (bl (od b.natAbs) : Nat) := by rw [fm_parts hb]
      have la := bl_od (n := a.natAbs) (by omega)
      have lb := bl_od (n := b.natAbs) (by omega)
      by_cases h0 : (fm low a).e - (fm low b).e = 0
      · rw [if_pos h0]
        exact paEq_fm hp ha hb (by omega)
      · rw [if_neg h0]
        by_cases h1 : 0 < (fm low a).e - (fm low b).e
        · rw [if_pos h1]
          by_cases h2 : 100 < (fm low a).e - (fm low b).e
          · rw [if_pos h2]
            by_cases h3 : (p : Int) + 4 < (fm low a).b + (fm low a).e - (fm low b).b - (fm low b).e
            · rw [if_pos h3]
              unfold paBig
              rw [← paBig_fm hp hp2 (low := low) ha hb (by omega) (by omega) hr]
              by_cases hs : (fm low a).s = (fm low b).s
              · rw [if_pos hs, if_pos hs.symm]
              · rw [if_neg hs, if_neg (fun h => hs h.symm)]
            · rw [if_neg h3]; exact paUp_fm hp ha hb (by omega)
          · rw [if_neg h2]; exact paUp_fm hp ha hb (by omega)
        · rw [if_neg h1]
          by_cases h2 : (fm low a).e - (fm low b).e < -100
          · rw [if_pos h2]
            by_cases h3 : (p : Int) + 4 < (fm low b).b + (fm low b).e - (fm low a).b - (fm low a).e
            · rw [if_pos h3]
              unfold paBig
              rw [Int.add_comm a b, ← paBig_fm hp hp2 (low := low) hb ha (by omega) (by omega) hr.symm]
              by_cases hs : (fm low a).s = (fm low b).s
              · rw [if_pos hs, if_pos hs.symm]
              · rw [if_neg hs, if_neg (fun h => hs h.symm)]
            · rw [if_neg h3]; exact paLo_fm hp ha hb (by omega)
          · rw [if_neg h2]; exact paLo_fm hp ha hb (by omega)
theorem pyAdd_sub {pr low b : Int} {s : T4} : pyAdd s (fm low b) pr 1 = pyAdd s (fm low (-b)) pr 0 := by
  rw [fm_neg]
  by_cases h : (fm low b).m = 0
  · rw [if_pos h]
    unfold pyAdd
    by_cases hs : s.m = 0
    · rw [if_pos hs, if_pos hs, if_pos h, if_pos h]
    · rw [if_neg hs, if_neg hs, if_pos h, if_pos h]
  · rw [if_neg h]
    have h1 := xor1 (fm_is low b).s
    have h2 : Builtin.bitXor (1 - (fm low b).s) 0 = 1 - (fm low b).s := xor0 (by have := (fm_is low b).s; omega)
    unfold pyAdd paUp paLo paEq
    dsimp only
    rw [h1, h2]
    simp only [if_neg h]
theorem pySub_fm {p : Nat} (hp : 0 < p) (hp2 : p ≤ 50) {low a b : Int} (hr : Rep p a ∨ Rep p b) : pyAdd (fm low a) (fm low b) (p : Nat) 1 = fm low (RN p (a - b)) := by
  rw [pyAdd_sub, pyAdd_fm hp hp2 (hr.imp id fun h => h.neg), Int.sub_eq_add_neg]
end Mine

-- M9
namespace Mine
open PySem

/-- a lies wholly below b's last place -/
def Ap (a b : Int) : Prop := Dv (bl a.natAbs) b
structure RowOk (p : Nat) (l : List Int) : Prop where
  ne : ∀ x ∈ l, x ≠ 0
  rep : ∀ x ∈ l, Rep p x
  ap : l.Pairwise Ap
theorem RowOk.nil {p : Nat} : RowOk p [] := ⟨by simp, by simp, List.Pairwise.nil⟩
theorem bl_mono {a b : Nat} (h : a ≤ b) : bl a ≤ bl b := bl_le_of_lt (Nat.lt_of_le_of_lt h (bl_lt b))
/-- a number added to the row, from the least on -/
def grow (p : Nat) : Int → List Int → List Int
  | q, [] => if q = 0 then [] else [q]
  | q, y :: r => if q + y - RN p (q + y) = 0 then grow p (RN p (q + y)) r else (q + y - RN p (q + y)) :: grow p (RN p (q + y)) r
theorem grow_sum {p : Nat} {ys : List Int} : ∀ {q : Int}, (grow p q ys).sum = q + ys.sum := by
  induction ys with
  | nil => intro q; unfold grow; split <;> simp_all
  | cons y r ih =>
    intro q
    unfold grow
    split
    · rw [ih, List.sum_cons]; omega
    · rw [List.sum_cons, ih, List.sum_cons]; omega
theorem grow_len {p : Nat} {ys : List Int} : ∀ {q : Int}, (grow p q ys).length ≤ ys.length + 1 := by
  induction ys with
  | nil => intro q; unfold grow; split <;> simp
  | cons y r ih =>
    intro q
    unfold grow
    split
    · exact Nat.le_trans ih (by simp)
    · rw [List.length_cons, List.length_cons]; exact Nat.succ_le_succ ih
theorem grow_dv {p k : Nat} (hp : 0 < p) {ys : List Int} : ∀ {q : Int}, Dv k q → (∀ y ∈ ys, Dv k y) → ∀ x ∈ grow p q ys, Dv k x := by
  induction ys with
  | nil =>
    intro q hq _ x hx
    unfold grow at hx
    split at hx
    · simp at hx
    · rw [List.mem_singleton.mp hx]; exact hq
  | cons y r ih =>
    intro q hq hy x hx
    have hs := hq.add (hy y (by simp))
    have hr := RN_dv hp hs
    unfold grow at hx
    split at hx
    · exact ih hr (fun z hz => hy z (by simp [hz])) x hx
    · rcases List.mem_cons.mp hx with rfl | hx
      · exact hs.sub hr
      · exact ih hr (fun z hz => hy z (by simp [hz])) x hx
theorem grow_ok {p : Nat} (hp : 0 < p) {ys : List Int} : ∀ {q : Int}, Rep p q → RowOk p ys → RowOk p (grow p q ys) := by
  induction ys with
  | nil =>
    intro q hq _
    unfold grow
    split
    · exact RowOk.nil
    · next h => exact ⟨by simp [h], by simp [hq], by simp⟩
  | cons y r ih =>
    intro q hq h
    have hyr := List.pairwise_cons.mp h.ap
    have hr : RowOk p r := ⟨fun x hx => h.ne x (by simp [hx]), fun x hx => h.rep x (by simp [hx]), hyr.2⟩
    have hy : Rep p y := h.rep y (by simp)
    have hI := ih (q := RN p (q + y)) (RN_rep hp) hr
    unfold grow
    split
    · exact hI
    · next h0 =>
      have hle : (q + y - RN p (q + y)).natAbs ≤ y.natAbs := by
        have := RN_near hp (x := q + y) hq
        omega
      refine ⟨?_, ?_, List.pairwise_cons.mpr ⟨?_, hI.ap⟩⟩
      · intro x hx
        rcases List.mem_cons.mp hx with rfl | hx
        · exact h0
        · exact hI.ne x hx
      · intro x hx
        rcases List.mem_cons.mp hx with rfl | hx
        · exact rep_loss hp hq hy
        · exact hI.rep x hx
      · exact grow_dv hp (RN_last hp) (fun z hz => (hyr.1 z hz).mono (bl_mono hle))
theorem grow_bound {p B : Nat} (hp : 0 < p) {ys : List Int} : ∀ {q : Int} (j : Nat), Rep p q → q.natAbs ≤ 2 ^ (B + j) → (∀ y ∈ ys, y.natAbs ≤ 2 ^ B) → ∀ x ∈ grow p q ys, x.natAbs ≤ 2 ^ (B + j + ys.length) := by
  induction ys with
  | nil =>
    intro q j _ hq _ x hx
    unfold grow at hx
    split at hx
    · simp at hx
    · rw [List.mem_singleton.mp hx]; exact hq
  | cons y r ih =>
    intro q j hR hq hy x hx
    have h1 := hy y (by simp)
    have h2 : 2 ^ B ≤ 2 ^ (B + j) := pow_le_of (by omega)
    have h3 : 2 ^ (B + (j + 1)) = 2 * 2 ^ (B + j) := by rw [Nat.mul_comm, ← Nat.pow_succ]; rfl
    have h4 : (RN p (q + y)).natAbs ≤ 2 ^ (B + (j + 1)) := RN_bound hp (by omega)
    have h5 := ih (j + 1) (RN_rep hp) h4 (fun z hz => hy z (by simp [hz])) x
    have h6 : B + j + (y :: r).length = B + (j + 1) + r.length := by rw [List.length_cons]; omega
    rw [h6]
    unfold grow at hx
    split at hx
    · exact h5 hx
    · rcases List.mem_cons.mp hx with rfl | hx
      · have := RN_near hp (x := q + y) hR
        have h7 : 2 ^ (B + j) ≤ 2 ^ (B + (j + 1) + r.length) := pow_le_of (by omega)
        omega
      · exact h5 hx

/-- the parts below one that lies apart -/
theorem row_small {k : Nat} {l : List Int} : (∀ x ∈ l, x ≠ 0) → l.Pairwise Ap → (∀ x ∈ l, bl x.natAbs ≤ k) → l.sum.natAbs < 2 ^ k ∧ (∀ y z, l = y ++ [z] → (0 < l.sum ↔ 0 < z) ∧ l.sum ≠ 0) ∧ (∀ j, (∀ x ∈ l, Dv j x) → Dv j l.sum) := by
  induction l generalizing k with
  | nil => exact fun _ _ _ => ⟨by simpa using Nat.two_pow_pos k, fun y z h => by simp at h, fun j _ => by simpa using Dv.zero⟩
  | cons x r ih =>
    intro h0 h1 h2
    have hp := List.pairwise_cons.mp h1
    obtain ⟨i1, i2, i3⟩ := ih (k := k) (fun z hz => h0 z (by simp [hz])) hp.2 (fun z hz => h2 z (by simp [hz]))
    have hx := h2 x (by simp)
    have hx0 := h0 x (by simp)
    have hb := bl_lt x.natAbs
    have hd := i3 _ hp.1
    rw [List.sum_cons]
    refine ⟨?_, ?_, fun j hj => (hj x (by simp)).add (i3 j fun z hz => hj z (by simp [hz]))⟩
    · -- r.sum is a multiple of 2^(bl x), below 2^k
      obtain ⟨z, hz⟩ := Dv.iff.mp hd
      have e : 2 ^ k = 2 ^ bl x.natAbs * 2 ^ (k - bl x.natAbs) := by rw [← Nat.pow_add]; congr 1; omega
      rw [e] at i1 ⊢
      rw [hz] at i1
      have h3 := Nat.lt_of_mul_lt_mul_left i1
      have h4 : 2 ^ bl x.natAbs * (z + 1) ≤ 2 ^ bl x.natAbs * 2 ^ (k - bl x.natAbs) := Nat.mul_le_mul_left _ h3
      rw [Nat.mul_add, Nat.mul_one] at h4
      omega
    · intro y z e
      cases y with
      | nil =>
        simp at e
        obtain ⟨rfl, rfl⟩ := e
        simp [hx0]
      | cons w y =>
        simp at e
        obtain ⟨rfl, e⟩ := e
        obtain ⟨a, b⟩ := i2 y z e
        have := hd.le b
        omega
theorem row_last {l : List Int} {z : Int} {y : List Int} (h0 : ∀ x ∈ l, x ≠ 0) (h1 : l.Pairwise Ap) (e : l = y ++ [z]) : (0 < l.sum ↔ 0 < z) ∧ l.sum ≠ 0 ∧ l.sum.natAbs < 2 ^ bl z.natAbs := by
  have hz : z ∈ l := by rw [e]; simp
  have hbl : ∀ x ∈ l, bl x.natAbs ≤ bl z.natAbs := by
    intro x hx
    rw [e] at hx h1
    rcases List.mem_append.mp hx with h | h
    · have h2 := (List.pairwise_append.mp h1).2.2 x h z (by simp)
      have h3 := Dv.le h2 (h0 z hz)
      have h4 := bl_lt z.natAbs
      have h5 := (Nat.pow_lt_pow_iff_right (a := 2) (by decide)).mp (Nat.lt_of_le_of_lt h3 h4)
      omega
    · rw [List.mem_singleton.mp h]; exact Nat.le_refl _
  obtain ⟨a, b, _⟩ := row_small (k := bl z.natAbs) h0 h1 hbl
  exact ⟨(b y z e).1, (b y z e).2, a⟩

/-- the last rounding -/
def Last (p : Nat) (x R : Int) : Prop :=
  let T := RN p x
  let l := x - T
  let M := RN p (T + 2 * l)
  ((0 < l ↔ 0 < R) → (RN p (M - T) = 2 * l → RN p (x + R) = M) ∧ (RN p (M - T) ≠ 2 * l → RN p (x + R) = T)) ∧ (¬(0 < l ↔ 0 < R) → RN p (x + R) = T)
theorem last_pos {p b : Nat} (hp : 0 < p) {x R : Int} (hx : 0 < x) (hl : x - RN p x ≠ 0) (hR0 : R ≠ 0) (hR : R.natAbs < 2 ^ b) (hd : Dv b x) (hdl : Dv b (x - RN p x)) : Last p x R := by
  obtain ⟨n, rfl⟩ := Int.eq_ofNat_of_zero_le (Int.le_of_lt hx)
  rcases rn_cases (n := n) hp with ⟨_, e⟩ | ⟨c, q, r, h1, h2, h3, h4, h5, h6, h7⟩
  · exact absurd (by rw [RN_nonneg (by omega), Int.natAbs_natCast, e]; omega) hl
  have eRN : ∀ m : Nat, RN p (m : Int) = (rn p m : Nat) := fun m => by rw [RN_nonneg (by omega), Int.natAbs_natCast]
  have e1 : (q + 1) * 2 ^ c = q * 2 ^ c + 2 ^ c := by rw [Nat.add_mul, Nat.one_mul]
  have ec : 2 ^ c = 2 ^ (c - 1) * 2 := by rw [← Nat.pow_succ]; congr 1; omega
  have hle := Dv.le hdl hl
  have hU := Nat.two_pow_pos (c - 1)
  have hbd : 2 * ((n : Int) - RN p n).natAbs ≤ 2 ^ c := by
    rw [eRN]
    rw [e1] at h7
    generalize q * 2 ^ c = A at *
    generalize 2 ^ c = U at *
    omega
  have hbc : b ≤ c - 1 := by
    refine Nat.not_lt.mp fun h => ?_
    have : 2 ^ c ≤ 2 ^ b := pow_le_of (by omega)
    omega
  -- r is a multiple of 2^b, and so is the half
  have hr : 2 ^ b ∣ r := by
    have h8 := Dv.iff.mp hd
    rw [Int.natAbs_natCast, h3] at h8
    exact (Nat.dvd_add_right (Nat.dvd_trans (Nat.pow_dvd_pow 2 (show b ≤ c by omega)) (Nat.dvd_mul_left _ _))).mp h8
  have hr0 : r ≠ 0 := by
    intro e
    subst e
    apply hl
    rw [eRN]
    rcases h7 with ⟨h7, _⟩ | ⟨h7, h8, _⟩ <;> omega
  obtain ⟨H, hH⟩ := Nat.pow_dvd_pow 2 hbc
  obtain ⟨s, rfl⟩ := hr
  have hB := Nat.two_pow_pos b
  -- gaps: s against H
  have gap1 : s < H → 2 ^ b * s + 2 ^ b ≤ 2 ^ (c - 1) := fun h => by rw [hH, ← Nat.mul_succ]; exact Nat.mul_le_mul_left _ h
  have gap2 : H < s → 2 ^ (c - 1) + 2 ^ b ≤ 2 ^ b * s := fun h => by rw [hH, ← Nat.mul_succ]; exact Nat.mul_le_mul_left _ h
  have gap3 : 2 ^ b * s + 2 ^ b ≤ 2 ^ c := by
    rw [ec, hH, Nat.mul_assoc, ← Nat.mul_succ]
    refine Nat.mul_le_mul_left _ ?_
    rw [ec, hH, Nat.mul_assoc] at h4
    exact Nat.lt_of_mul_lt_mul_left h4
  have gap4 : 2 ^ b ≤ 2 ^ b * s := Nat.le_mul_of_pos_right _ (by
    rcases Nat.eq_zero_or_pos s with e | e
    · subst e; simp at hr0
    · exact e)
  have gap5 : s = H → 2 ^ b * s = 2 ^ (c - 1) := fun h => by rw [hH, h]
  have hcell : ∀ m t : Nat, m = q * 2 ^ c + t → t < 2 ^ c → (2 * t < 2 ^ c → rn p m = q * 2 ^ c) ∧ (2 ^ c < 2 * t → rn p m = (q + 1) * 2 ^ c) ∧ (rn p m = q * 2 ^ c ∨ rn p m = (q + 1) * 2 ^ c) := by
    intro m t hm ht
    have hlo : 2 ^ (p - 1) * 2 ^ c ≤ q * 2 ^ c := Nat.mul_le_mul_right _ h5
    have hhi : (q + 1) * 2 ^ c ≤ 2 ^ p * 2 ^ c := Nat.mul_le_mul_right _ h6
    rw [← Nat.pow_add] at hlo hhi
    have hb : bl m = p + c := by
      have := bl_eq (n := m) (k := p - 1 + c) (by omega) (by rw [show p - 1 + c + 1 = p + c by omega]; omega)
      omega
    have hcs := rn_of_cases hp hb h2 hm ht
    refine ⟨hcs.1, hcs.2, ?_⟩
    by_cases h : 2 * t < 2 ^ c
    · exact .inl (hcs.1 h)
    · by_cases h' : 2 ^ c < 2 * t
      · exact .inr (hcs.2 h')
      · have hn := rn_near (n := m) (y := q * 2 ^ c) hp ⟨c, Nat.dvd_mul_left _ _, by rw [Nat.pow_add]; exact Nat.mul_lt_mul_of_pos_right h6 (Nat.two_pow_pos _)⟩
        have hg := rep_gap (c := c) (q := q) hp (RepN.rn (n := m) hp) h5
        rw [e1] at hg ⊢
        generalize q * 2 ^ c = A at *
        generalize 2 ^ c = U at *
        omega
  have hrepU : Rep p ((2 ^ c : Nat) : Int) := Rep.pow hp
  -- the sum
  obtain ⟨m, hm⟩ : ∃ m : Nat, (n : Int) + R = m := ⟨((n : Int) + R).toNat, by omega⟩
  obtain ⟨t, ht⟩ : ∃ t : Nat, ((2 ^ b * s : Nat) : Int) + R = t := ⟨(((2 ^ b * s : Nat) : Int) + R).toNat, by omega⟩
  have hmt := hcell m t (by omega) (by omega)
  rw [e1] at h7 hmt
  unfold Last
  dsimp only
  rw [eRN, hm, eRN]
  rcases Nat.lt_trichotomy s H with hs | hs | hs
  · have g := gap1 hs
    have eT : rn p n = q * 2 ^ c := by omega
    have eS : rn p m = q * 2 ^ c := hmt.1 (by omega)
    rw [eT, eS]
    have hy := hcell (q * 2 ^ c + 2 * (2 ^ b * s)) (2 * (2 ^ b * s)) rfl (by omega)
    rw [e1] at hy
    have eY : (((q * 2 ^ c : Nat) : Int) + 2 * ((n : Int) - ((q * 2 ^ c : Nat) : Int))) = ((q * 2 ^ c + 2 * (2 ^ b * s) : Nat) : Int) := by omega
    rw [eY, eRN]
    have hne : RN p (((rn p (q * 2 ^ c + 2 * (2 ^ b * s)) : Nat) : Int) - ((q * 2 ^ c : Nat) : Int)) ≠ 2 * ((n : Int) - ((q * 2 ^ c : Nat) : Int)) := by
      rcases hy.2.2 with e | e
      · rw [e, Int.sub_self, RN_zero hp]; omega
      · rw [e, show ((q * 2 ^ c + 2 ^ c : Nat) : Int) - ((q * 2 ^ c : Nat) : Int) = ((2 ^ c : Nat) : Int) by omega, RN_self hp hrepU]; omega
    exact ⟨fun _ => ⟨fun h => absurd h hne, fun _ => rfl⟩, fun _ => rfl⟩
  · have g := gap5 hs
    rcases h7 with ⟨h7, _⟩ | ⟨h7, _⟩
    · rw [h7]
      have eY : (((q * 2 ^ c : Nat) : Int) + 2 * ((n : Int) - ((q * 2 ^ c : Nat) : Int))) = ((q * 2 ^ c + 2 ^ c : Nat) : Int) := by omega
      have hrY : RN p ((q * 2 ^ c + 2 ^ c : Nat) : Int) = ((q * 2 ^ c + 2 ^ c : Nat) : Int) := by
        refine RN_self hp ?_
        rw [← e1]
        by_cases h8 : q + 1 < 2 ^ p
        · exact Rep.of (k := c) (Dv.iff.mpr (by rw [Int.natAbs_natCast]; exact Nat.dvd_mul_left _ _)) (by rw [Int.natAbs_natCast, Nat.pow_add]; exact Nat.mul_lt_mul_of_pos_right h8 (Nat.two_pow_pos _))
        · rw [show q + 1 = 2 ^ p by omega, ← Nat.pow_add]; exact Rep.pow hp
      rw [eY, hrY, show ((q * 2 ^ c + 2 ^ c : Nat) : Int) - ((q * 2 ^ c : Nat) : Int) = ((2 ^ c : Nat) : Int) by omega, RN_self hp hrepU]
      refine ⟨fun hsg => ⟨fun _ => ?_, fun h => absurd ?_ h⟩, fun hsg => ?_⟩
      · rw [hmt.2.1 (by omega)]
      · omega
      · rw [hmt.1 (by omega)]
    · rw [h7]
      have eY : (((q * 2 ^ c + 2 ^ c : Nat) : Int) + 2 * ((n : Int) - ((q * 2 ^ c + 2 ^ c : Nat) : Int))) = ((q * 2 ^ c : Nat) : Int) := by omega
      have hrY : RN p ((q * 2 ^ c : Nat) : Int) = ((q * 2 ^ c : Nat) : Int) := by
        refine RN_self hp ?_
        exact Rep.of (k := c) (Dv.iff.mpr (by rw [Int.natAbs_natCast]; exact Nat.dvd_mul_left _ _)) (by rw [Int.natAbs_natCast, Nat.pow_add]; exact Nat.mul_lt_mul_of_pos_right h6 (Nat.two_pow_pos _))
      rw [eY, hrY, show ((q * 2 ^ c : Nat) : Int) - ((q * 2 ^ c + 2 ^ c : Nat) : Int) = -((2 ^ c : Nat) : Int) by omega, RN_self hp hrepU.neg]
      refine ⟨fun hsg => ⟨fun _ => ?_, fun h => absurd ?_ h⟩, fun hsg => ?_⟩
      · rw [hmt.1 (by omega)]
      · omega
      · rw [hmt.2.1 (by omega)]
  · have g := gap2 hs
    have eT : rn p n = q * 2 ^ c + 2 ^ c := by omega
    have eS : rn p m = q * 2 ^ c + 2 ^ c := hmt.2.1 (by omega)
    rw [eT, eS]
    have hy := hcell (q * 2 ^ c + (2 * (2 ^ b * s) - 2 ^ c)) (2 * (2 ^ b * s) - 2 ^ c) rfl (by omega)
    rw [e1] at hy
    have eY : (((q * 2 ^ c + 2 ^ c : Nat) : Int) + 2 * ((n : Int) - ((q * 2 ^ c + 2 ^ c : Nat) : Int))) = ((q * 2 ^ c + (2 * (2 ^ b * s) - 2 ^ c) : Nat) : Int) := by omega
    rw [eY, eRN]
    have hne : RN p (((rn p (q * 2 ^ c + (2 * (2 ^ b * s) - 2 ^ c)) : Nat) : Int) - ((q * 2 ^ c + 2 ^ c : Nat) : Int)) ≠ 2 * ((n : Int) - ((q * 2 ^ c + 2 ^ c : Nat) : Int)) := by
      rcases hy.2.2 with e | e
      · rw [e, show ((q * 2 ^ c : Nat) : Int) - ((q * 2 ^ c + 2 ^ c : Nat) : Int) = -((2 ^ c : Nat) : Int) by omega, RN_self hp hrepU.neg]; omega
      · rw [e, Int.sub_self, RN_zero hp]; omega
    exact ⟨fun _ => ⟨fun h => absurd h hne, fun _ => rfl⟩, fun _ => rfl⟩
theorem last_all {p b : Nat} (hp : 0 < p) {x R : Int} (hl : x - RN p x ≠ 0) (hR0 : R ≠ 0) (hR : R.natAbs < 2 ^ b) (hd : Dv b x) (hdl : Dv b (x - RN p x)) : Last p x R := by
  rcases Int.lt_trichotomy x 0 with h | h | h
  · have hn : RN p (-x) = -RN p x := RN_neg hp
    have := last_pos (x := -x) (R := -R) (b := b) hp (by omega) (by omega) (by omega) (by omega) hd.neg (by rw [hn, show -x - -RN p x = -(x - RN p x) by omega]; exact hdl.neg)
    unfold Last at *
    dsimp only at *
    rw [hn, show -RN p x + 2 * (-x - -RN p x) = -(RN p x + 2 * (x - RN p x)) by omega, RN_neg hp (x := RN p x + 2 * (x - RN p x)), show -RN p (RN p x + 2 * (x - RN p x)) - -RN p x = -(RN p (RN p x + 2 * (x - RN p x)) - RN p x) by omega, RN_neg hp (x := RN p (RN p x + 2 * (x - RN p x)) - RN p x), show -x + -R = -(x + R) by omega, RN_neg hp (x := x + R)] at this
    generalize RN p (RN p (RN p x + 2 * (x - RN p x)) - RN p x) = Z at *
    generalize RN p (RN p x + 2 * (x - RN p x)) = M at *
    generalize RN p (x + R) = S at *
    generalize RN p x = T at *
    obtain ⟨a, b⟩ := this
    refine ⟨fun hs => ⟨fun e => ?_, fun e => ?_⟩, fun hs => ?_⟩
    · have := (a (by omega)).1 (by omega); omega
    · have := (a (by omega)).2 (by omega); omega
    · have := b (by omega); omega
  · subst h; rw [RN_zero hp] at hl; exact absurd rfl hl
  · exact last_pos hp h hl hR0 hR hd hdl
end Mine

-- M10
namespace Mine
open PySem

/-- the parts from the greatest down: top and lost, and what lies below -/
structure LastOk (p : Nat) (rs : List Int) (t : Int) (k : Nat) (tv lv : Int) : Prop where
  eq : tv + lv + (rs.take k).sum = t
  rt : Rep p tv
  rl : Rep p lv
  top : RN p (tv + lv) = tv
  ap : ∀ x ∈ rs.take k, Ap x tv ∧ Ap x lv
  bt : tv.natAbs ≤ 2 ^ (240 + (rs.length - k))
  btl : lv.natAbs ≤ 2 ^ 240
theorem take_sum {rs : List Int} {k : Nat} {y : Int} (h : rs[k]? = some y) : (rs.take (k + 1)).sum = (rs.take k).sum + y := by
  rw [List.take_add_one, h]
  simp only [Option.toList_some, List.sum_append, List.sum_cons, List.sum_nil, Int.add_zero]
theorem mem_take_lt {rs : List Int} {k : Nat} {x y : Int} (hap : rs.Pairwise Ap) (hy : rs[k]? = some y) (hx : x ∈ rs.take k) : Ap x y := by
  obtain ⟨i, hi, e⟩ := List.getElem_of_mem hx
  obtain ⟨hk, e2⟩ := List.getElem?_eq_some_iff.mp hy
  rw [List.length_take] at hi
  rw [List.getElem_take] at e
  rw [← e, ← e2]
  exact List.pairwise_iff_getElem.mp hap i k (by omega) hk (by omega)
theorem LastOk.nil {p : Nat} (hp : 0 < p) : LastOk p [] 0 0 0 0 :=
  ⟨by simp, Rep.zero, Rep.zero, by rw [Int.add_zero]; exact RN_zero hp, by simp, Nat.zero_le _, Nat.zero_le _⟩
theorem LastOk.start {p k : Nat} (hp : 0 < p) {rs : List Int} {y : Int} (ok : RowOk p rs) (hk : rs.length = k + 1) (hy : rs[k]? = some y) (hb : y.natAbs ≤ 2 ^ 240) : LastOk p rs rs.sum k y 0 := by
  have hm := List.mem_of_getElem? hy
  refine ⟨?_, ok.rep y hm, Rep.zero, by rw [Int.add_zero]; exact RN_self hp (ok.rep y hm), fun x hx => ⟨mem_take_lt ok.ap hy hx, Dv.zero⟩, Nat.le_trans hb (pow_le_of (by omega)), Nat.zero_le _⟩
  have h1 := take_sum hy
  rw [← hk, List.take_length] at h1
  omega
theorem LastOk.step {p k : Nat} (hp : 0 < p) {rs : List Int} {t tv y : Int} (ok : RowOk p rs) (h : LastOk p rs t (k + 1) tv 0) (hk : k + 1 ≤ rs.length) (hy : rs[k]? = some y) (hb : y.natAbs ≤ 2 ^ 240) :
    LastOk p rs t k (RN p (tv + y)) (tv + y - RN p (tv + y)) := by
  have hm := List.mem_of_getElem? hy
  have h1 := take_sum hy
  have h2 := h.eq
  have hsub : ∀ x ∈ rs.take k, x ∈ rs.take (k + 1) := fun x hx => by
    rw [List.take_add_one]
    exact List.mem_append_left _ hx
  have hd : ∀ x ∈ rs.take k, Ap x (tv + y) := fun x hx => (h.ap x (hsub x hx)).1.add (mem_take_lt ok.ap hy hx)
  refine ⟨by omega, RN_rep hp, rep_loss hp h.rt (ok.rep y hm), ?_, fun x hx => ⟨RN_dv hp (hd x hx), (hd x hx).sub (RN_dv hp (hd x hx))⟩, ?_, ?_⟩
  · rw [show RN p (tv + y) + (tv + y - RN p (tv + y)) = tv + y by omega]
  · refine RN_bound hp ?_
    have h3 := h.bt
    have h4 : 2 ^ 240 ≤ 2 ^ (240 + (rs.length - (k + 1))) := pow_le_of (by omega)
    have h5 : 2 ^ (240 + (rs.length - k)) = 2 ^ (240 + (rs.length - (k + 1))) * 2 := by rw [← Nat.pow_succ]; congr 1; omega
    omega
  · have := RN_near hp (x := tv + y) h.rt
    omega
theorem LastOk.done0 {p : Nat} {rs : List Int} {t tv lv : Int} (h : LastOk p rs t 0 tv lv) : RN p t = tv := by
  have h1 := h.eq
  rw [List.take_zero, List.sum_nil, Int.add_zero] at h1
  rw [← h1]
  exact h.top
theorem LastOk.last {p k : Nat} (hp : 0 < p) {rs : List Int} {t tv lv y : Int} (ok : RowOk p rs) (h : LastOk p rs t (k + 1) tv lv) (hl : lv ≠ 0) (hy : rs[k]? = some y) :
    ((0 < lv ↔ 0 < y) → (RN p (RN p (tv + 2 * lv) - tv) = 2 * lv → RN p t = RN p (tv + 2 * lv)) ∧ (RN p (RN p (tv + 2 * lv) - tv) ≠ 2 * lv → RN p t = tv)) ∧ (¬(0 < lv ↔ 0 < y) → RN p t = tv) := by
  have hsub : ∀ x ∈ rs.take (k + 1), x ∈ rs := fun x hx => List.mem_of_mem_take hx
  have hy1 : y ∈ rs.take (k + 1) := by rw [List.take_add_one, hy]; simp
  obtain ⟨r1, r2, r3⟩ := row_last (l := rs.take (k + 1)) (z := y) (y := rs.take k) (fun x hx => ok.ne x (hsub x hx)) (ok.ap.sublist (List.take_sublist _ _)) (by rw [List.take_add_one, hy]; rfl)
  have hx := h.top
  have hlx : tv + lv - RN p (tv + lv) = lv := by omega
  have := last_all (x := tv + lv) (R := (rs.take (k + 1)).sum) (b := bl y.natAbs) hp (by rw [hlx]; exact hl) r2 r3 ((h.ap y hy1).1.add (h.ap y hy1).2) (by rw [hlx]; exact (h.ap y hy1).2)
  unfold Last at this
  dsimp only at this
  rw [hlx, hx, h.eq] at this
  constructor
  · intro hs
    exact this.1 (hs.trans r1.symm)
  · intro hs
    exact this.2 (fun k => hs (k.trans r1))
end Mine

-- C0
set_option maxRecDepth 100000
namespace Mine
open PySem PySem.W PyProof.Rows PySem.Spec PySem.Calls

/-- what a call of the text's def at `f` upon `vs` gives, over any ledger -/
def MGives (w : World) (need : Nat) (f : Addr) (vs : List Value) (news : List (Addr × Obj)) (Out : List (Addr × Obj) → Value → Prop) : Prop :=
  ∀ (p : Program) (loose : List Str) (mean : ExcName → Option Value) (mg mb : Str → Option Value)
    (dp un : Nat) (gd : Option (List Code)) (cn : Str) (cs : Scope) (a : Addr) (ccd : Value) (cl : List (Str × Addr)) (outer : List Env) (A₀ : Around) (base h₀ : Heap) (L : Addr) (m : Str → Option Value) (s : Shared)
    (Q E : Value → Shared → Prop),
    Below A₀ base outer h₀ → Fr h₀ L s.heap m → (Mine.hd.heap_39 w.params).In h₀ → News h₀ L s.heap news → Top p loose mean mg mb h₀ → cs.kind = .function → dp + need < recursionLimit → un + 8 * need < cLine →
    (∀ r news' h' tk', Fr h₀ L h' m → News h₀ L h' news' → (∀ q ∈ news, q ∈ news') → Out news' r → Q r { s with heap := h', toks := tk' }) →
    wpAny (model PySem.Challenge.rw_aa5008_01.prog w) (ktrTop dp un gd cn cs L a ccd cl outer) (call (.ref f) vs) Q E s

theorem MGives.intro {w : World} {need : Nat} {f : Addr} {vs : List Value} {news : List (Addr × Obj)} {Out : List (Addr × Obj) → Value → Prop}
    (h : PySem.Challenge.rw_aa5008_01 = PySem.Challenge.rw_aa5008_01 → Mine.hd.heap_39 w.params = Mine.hd.heap_39 w.params → MGives w need f vs news Out) : MGives w need f vs news Out := h rfl rfl

/-- a def that makes nothing that outlives it -/
def MGivesP (w : World) (need : Nat) (f : Addr) (vs : List Value) (news : List (Addr × Obj)) (Out : Value → Prop) : Prop :=
  MGives w need f vs news (fun _ v => Out v)

theorem MGives.use {w : World} {need : Nat} {f : Addr} {vs : List Value} {news : List (Addr × Obj)} {Out : List (Addr × Obj) → Value → Prop}
    {p : Program} {loose : List Str} {mean : ExcName → Option Value} {mg mb : Str → Option Value}
    {dp un : Nat} {gd : Option (List Code)} {cn : Str} {cs : Scope} {a : Addr} {ccd : Value} {cl : List (Str × Addr)} {outer : List Env} {A₀ : Around} {base h₀ : Heap} {L : Addr} {m : Str → Option Value} {s : Shared}
    {Q E : Value → Shared → Prop} (G : MGives w need f vs news Out)
    (B : Below A₀ base outer h₀) (F : Fr h₀ L s.heap m) (X : (Mine.hd.heap_39 w.params).In h₀) (N : News h₀ L s.heap news) (T : Top p loose mean mg mb h₀) (hk : cs.kind = .function) (hd : dp + need < recursionLimit) (hu : un + 8 * need < cLine)
    (ret : ∀ r tl h' tk', Fr h₀ L h' m → News h₀ L h' (news ++ tl) → Out (news ++ tl) r → Q r { s with heap := h', toks := tk' })
    (mono : ∀ n n' r, (∀ q ∈ n, q ∈ n') → Out n r → Out n' r) :
    wpAny (model PySem.Challenge.rw_aa5008_01.prog w) (ktrTop dp un gd cn cs L a ccd cl outer) (call (.ref f) vs) Q E s :=
  G _ _ _ _ _ _ _ _ _ _ _ _ _ _ _ _ _ _ _ _ _ _ B F X N T hk hd hu fun r news' h' tk' F' N' hs o =>
    ret r news' h' tk' F' (fun p hp => N' p ((List.mem_append.mp hp).elim (hs p) id)) (mono _ _ _ (fun q hq => List.mem_append.mpr (.inr hq)) o)

/-- the same, where nothing is said of the ledger: it is as it was -/
theorem MGives.useP {w : World} {need : Nat} {f : Addr} {vs : List Value} {news : List (Addr × Obj)} {Out : Value → Prop}
    {p : Program} {loose : List Str} {mean : ExcName → Option Value} {mg mb : Str → Option Value}
    {dp un : Nat} {gd : Option (List Code)} {cn : Str} {cs : Scope} {a : Addr} {ccd : Value} {cl : List (Str × Addr)} {outer : List Env} {A₀ : Around} {base h₀ : Heap} {L : Addr} {m : Str → Option Value} {s : Shared}
    {Q E : Value → Shared → Prop} (G : MGivesP w need f vs news Out)
    (B : Below A₀ base outer h₀) (F : Fr h₀ L s.heap m) (X : (Mine.hd.heap_39 w.params).In h₀) (N : News h₀ L s.heap news) (T : Top p loose mean mg mb h₀) (hk : cs.kind = .function) (hd : dp + need < recursionLimit) (hu : un + 8 * need < cLine)
    (ret : ∀ r h' tk', Fr h₀ L h' m → News h₀ L h' news → Out r → Q r { s with heap := h', toks := tk' }) :
    wpAny (model PySem.Challenge.rw_aa5008_01.prog w) (ktrTop dp un gd cn cs L a ccd cl outer) (call (.ref f) vs) Q E s :=
  G _ _ _ _ _ _ _ _ _ _ _ _ _ _ _ _ _ _ _ _ _ _ B F X N T hk hd hu fun r news' h' tk' F' N' hs o =>
    ret r h' tk' F' (fun p hp => N' p (hs p hp)) o

section
variable {prog : Program} {w : World} {M : Model} {A : Around} {E : Value → Shared → Prop} {Q : Value → Shared → Prop} {a b : Int} {t u : Tok}
  {h : Heap} {g : Array GenState} {d : Drawn} {tk : Nat} {o : OsState}
theorem add_T (H : ∀ t' tk', Q (.int (a + b) t') ⟨h, g, d, tk', o⟩) : wpAny (model prog w) A (binaryOp .Add (.int a t) (.int b u)) Q E ⟨h, g, d, tk, o⟩ := add_int (H _ _)
theorem sub_T (H : ∀ t' tk', Q (.int (a - b) t') ⟨h, g, d, tk', o⟩) : wpAny (model prog w) A (binaryOp .Sub (.int a t) (.int b u)) Q E ⟨h, g, d, tk, o⟩ := sub_int (H _ _)
theorem and_T (H : ∀ t' tk', Q (.int (Builtin.bitAnd a b) t') ⟨h, g, d, tk', o⟩) : wpAny (model prog w) A (binaryOp .BitAnd (.int a t) (.int b u)) Q E ⟨h, g, d, tk, o⟩ := and_int (H _ _)
theorem xor_T (H : ∀ t' tk', Q (.int (Builtin.bitXor a b) t') ⟨h, g, d, tk', o⟩) : wpAny (model prog w) A (binaryOp .BitXor (.int a t) (.int b u)) Q E ⟨h, g, d, tk, o⟩ := xor_int (H _ _)
theorem iadd_T (H : ∀ t' tk', Q (.int (a + b) t') ⟨h, g, d, tk', o⟩) : wpAny (model prog w) A (inplaceOp .Add (.int a t) (.int b u)) Q E ⟨h, g, d, tk, o⟩ := iadd_int (H _ _)
theorem isub_T (H : ∀ t' tk', Q (.int (a - b) t') ⟨h, g, d, tk', o⟩) : wpAny (model prog w) A (inplaceOp .Sub (.int a t) (.int b u)) Q E ⟨h, g, d, tk, o⟩ := PyProof.Rows.isub_int (H _ _)
theorem ixor_T (H : ∀ t' tk', Q (.int (Builtin.bitXor a b) t') ⟨h, g, d, tk', o⟩) : wpAny (model prog w) A (inplaceOp .BitXor (.int a t) (.int b u)) Q E ⟨h, g, d, tk, o⟩ := ixor_int (H _ _)
theorem mul_T (H : ∀ t' tk', Q (.int (a * b) t') ⟨h, g, d, tk', o⟩) (hm : IntMulOk a b) : wpAny (model prog w) A (binaryOp .Mult (.int a t) (.int b u)) Q E ⟨h, g, d, tk, o⟩ := PySem.P.mul_int (H _ _) hm
theorem mod_T (hb : b ≠ 0) (H : ∀ t' tk', Q (.int (a.fmod b) t') ⟨h, g, d, tk', o⟩) : wpAny (model prog w) A (binaryOp .Mod (.int a t) (.int b u)) Q E ⟨h, g, d, tk, o⟩ := mod_int' hb (H _ _)
theorem fdiv_T (hb : b ≠ 0) (hp : b.natAbs.log2 < 9000) (H : ∀ t' tk', Q (.int (a.fdiv b) t') ⟨h, g, d, tk', o⟩) : wpAny (model prog w) A (binaryOp .FloorDiv (.int a t) (.int b u)) Q E ⟨h, g, d, tk, o⟩ := PyProof.Rows.floordiv_int hb (H _ _) (.inl (PyProof.noPylong_of_log2 hp))
theorem ifdiv_T (hb : b ≠ 0) (hp : b.natAbs.log2 < 9000) (H : ∀ t' tk', Q (.int (a.fdiv b) t') ⟨h, g, d, tk', o⟩) : wpAny (model prog w) A (inplaceOp .FloorDiv (.int a t) (.int b u)) Q E ⟨h, g, d, tk, o⟩ := PyProof.Rows.ifloordiv_int hb (H _ _) (.inl (PyProof.noPylong_of_log2 hp))
theorem rsh_T (hn : 0 ≤ b) (H : ∀ t' tk', Q (.int (a.fdiv (2 ^ b.toNat)) t') ⟨h, g, d, tk', o⟩) : wpAny (model prog w) A (binaryOp .RShift (.int a t) (.int b u)) Q E ⟨h, g, d, tk, o⟩ := rshift_int hn (H _ _)
theorem irsh_T (hn : 0 ≤ b) (H : ∀ t' tk', Q (.int (a.fdiv (2 ^ b.toNat)) t') ⟨h, g, d, tk', o⟩) : wpAny (model prog w) A (inplaceOp .RShift (.int a t) (.int b u)) Q E ⟨h, g, d, tk, o⟩ := irshift_int hn (H _ _)
theorem lsh_T (hn : 0 ≤ b) (hs : (Builtin.Int.intBits a : Int) + b ≤ 134217728) (H : ∀ t' tk', Q (.int (a * 2 ^ b.toNat) t') ⟨h, g, d, tk', o⟩) : wpAny (model prog w) A (binaryOp .LShift (.int a t) (.int b u)) Q E ⟨h, g, d, tk, o⟩ := lshift_int hn (by omega) (H _ _)
theorem ilsh_T (hn : 0 ≤ b) (hs : (Builtin.Int.intBits a : Int) + b ≤ 134217728) (H : ∀ t' tk', Q (.int (a * 2 ^ b.toNat) t') ⟨h, g, d, tk', o⟩) : wpAny (model prog w) A (inplaceOp .LShift (.int a t) (.int b u)) Q E ⟨h, g, d, tk, o⟩ := ilshift_int hn (by omega) (H _ _)
theorem neg_T (H : ∀ t' tk', Q (.int (-a) t') ⟨h, g, d, tk', o⟩) : wpAny (model prog w) A (unaryOp .USub (.int a t)) Q E ⟨h, g, d, tk, o⟩ := PyProof.Rows.neg_int (H _ _)
theorem bits_T (H : ∀ t' tk', Q (.int (Builtin.Int.intBits a) t') ⟨h, g, d, tk', o⟩) : wpAny (model prog w) A (call (.builtin "int.bit_length") [.int a t]) Q E ⟨h, g, d, tk, o⟩ := call_int_bit_length (H _ _)
theorem const_T {env : Env} {i : Int} {k : Nat} {pos : Pos} (H : ∀ t' tk', Q (.int i t') ⟨h, g, d, tk', o⟩) : wpAny M A (eval (.Constant (.int i) k pos) env) Q E ⟨h, g, d, tk, o⟩ := wpAny_Constant_int (H _ _)
end

section
variable {prog : Program} {w : World} {M : Model} {A : Around} {E : Value → Shared → Prop} {name : Str} {scope : Scope} {L a : Addr} {cd : Value} {h₀ : Heap} {m : Str → Option Value} {news : List (Addr × Obj)}
  {h : Heap} {g : Array GenState} {d : Drawn} {tk : Nat} {o : OsState} {x : Str} {v : Value}
theorem store_T {Q : Unit → Shared → Prop} (F : Fr h₀ L h m) (N : News h₀ L h news)
    (H : ∀ h' tk', Fr h₀ L h' (fun y => if y = x then some v else m y) → News h₀ L h' news → Q () ⟨h', g, d, tk', o⟩)
    (hk : scope.kind = .function) (hl : (envOf name scope L a cd).kindOf x = some .local) :
    wpAny M A (storeName (envOf name scope L a cd) x v) Q E ⟨h, g, d, tk, o⟩ := stN F N (fun h' F' N' => H h' _ F' N') hk hl
theorem name_T {pos : Pos} {Q : Value → Shared → Prop} (F : Fr h₀ L h m) (hv : m x = some v) (H : Q v ⟨h, g, d, tk, o⟩) (hk : scope.kind = .function) (hl : (envOf name scope L a cd).kindOf x = some .local) (hd : (x == ("__debug__" : Str)) = false) :
    wpAny M A (eval (.Name x pos) (envOf name scope L a cd)) Q E ⟨h, g, d, tk, o⟩ := ld F hv H hk hl hd
theorem loadn_T {Q : Value → Shared → Prop} (F : Fr h₀ L h m) (hv : m x = some v) (H : Q v ⟨h, g, d, tk, o⟩) (hk : scope.kind = .function) (hl : (envOf name scope L a cd).kindOf x = some .local) :
    wpAny M A (loadName (envOf name scope L a cd) x) Q E ⟨h, g, d, tk, o⟩ := ldn F hv H hk hl
theorem ofString_eq {a b : String} : (Str.ofString a = Str.ofString b) = (a = b) := by
  refine propext ⟨fun h => ?_, fun h => by rw [h]⟩
  rw [PySem.Str.ofString_eq_toList, PySem.Str.ofString_eq_toList] at h
  have h1 : (a.toList.map Char.toNat) = (b.toList.map Char.toNat) := by
    have := congrArg (fun x : PySem.Str => x.cps.toList) h
    simpa using this
  have h2 : a.toList = b.toList := (List.map_inj_right fun x y hxy => Char.toNat_inj.mp hxy).mp h1
  exact String.toList_inj.mp h2
theorem look_here {x : Str} {v : Value} {r : Option Value} : (if x = x then some v else r) = some v := if_pos rfl
theorem look_there {x z : Str} {v u : Value} {r : Option Value} (h : (x == z) = false) (hm : r = some v) : (if x = z then some u else r) = some v := by
  rw [if_neg (by intro e; subst e; simp at h)]
  exact hm
def mapOf : List (Str × Value) → Str → Option Value
  | [] => fun _ => none
  | (k, v) :: r => fun y => if y = k then some v else mapOf r y
theorem lookup_mapOf (l : List (Str × Value)) : (fun y => l.lookup y) = mapOf l := by
  induction l with
  | nil => rfl
  | cons p r ih =>
    obtain ⟨k, v⟩ := p
    funext y
    have ih' := congrFun ih y
    simp only [mapOf, List.lookup_cons]
    by_cases hy : y = k
    · subst hy; simp
    · have : (y == k) = false := by simpa using hy
      rw [this, if_neg hy]; exact ih'
theorem fr_lookup {g h : Heap} {L : Addr} {l : List (Str × Value)} (F : Fr g L h (fun y => l.lookup y)) : Fr g L h (mapOf l) := by rw [← lookup_mapOf]; exact F
theorem look_map {x k : Str} {v u : Value} {r : List (Str × Value)} (h : (x == k) = false) (hm : mapOf r x = some v) : mapOf ((k, u) :: r) x = some v := by
  simp only [mapOf]; rw [if_neg (by intro e; subst e; simp at h)]; exact hm
theorem look_map_here {x : Str} {v : Value} {r : List (Str × Value)} : mapOf ((x, v) :: r) x = some v := by simp [mapOf]
theorem name_G {prog : Program} {w : World} {K : Frag} {p : Program} {loose : List Str} {mean : ExcName → Option Value} {mg mb : Str → Option Value} {pos : Pos} {Q : Value → Shared → Prop} (F : Fr h₀ L h m) (X : K.In h₀) (T : Top p loose mean mg mb h₀) (e : nsIn K mainGlobals x = some (some v)) (H : Q v ⟨h, g, d, tk, o⟩)
    (hk : scope.kind = .function) (hx : (envOf name scope L a cd).kindOf x = some .globalImplicit) (hd : (x == ("__debug__" : Str)) = false) :
    wpAny (model prog w) A (eval (.Name x pos) (envOf name scope L a cd)) Q E ⟨h, g, d, tk, o⟩ := name_K F X (topRead_of T) e H hk hx hd
theorem tuple_T {vs : List Value} {Q : Value → Shared → Prop} (F : Fr h₀ L h m) (N : News h₀ L h news) (hsz : vs.length ≤ 100)
    (H : ∀ h' r, Fr h₀ L h' m → News h₀ L h' ((r, { cls := .type "tuple", data := .seq vs.toArray }) :: news) → Q (.ref r) ⟨h', g, d, tk, o⟩) :
    wpAny M A (newTuple vs) Q E ⟨h, g, d, tk, o⟩ := newTuple_N F N (fun h' F' N' => H h' _ F' N') (by rw [sizeLine_eq]; omega)
theorem ite_tt_T {c : Prop} [Decidable c] {P R : Prop} (hc : c) (h : P) : if c then P else R := by rw [if_pos hc]; exact h
theorem ite_ff_T {c : Prop} [Decidable c] {P R : Prop} (hc : ¬ c) (h : R) : if c then P else R := by rw [if_neg hc]; exact h
theorem dec_tt {c : Prop} [Decidable c] {P R : Prop} (hc : c) (h : P) : if decide c = true then P else R := by rw [if_pos (decide_eq_true hc)]; exact h
theorem dec_ff {c : Prop} [Decidable c] {P R : Prop} (hc : ¬ c) (h : R) : if decide c = true then P else R := by rw [if_neg (by simpa using hc)]; exact h
theorem dec_split {c : Prop} [Decidable c] {P R : Prop} (h1 : c → P) (h2 : ¬ c → R) : if decide c = true then P else R := by
  by_cases hc : c
  · exact dec_tt hc (h1 hc)
  · exact dec_ff hc (h2 hc)
theorem bne_tt {a b : Int} {P R : Prop} (hc : a ≠ b) (h : P) : if (a != b) = true then P else R := by rw [if_pos (bne_iff_ne.mpr hc)]; exact h
theorem bne_ff {a b : Int} {P R : Prop} (hc : a = b) (h : R) : if (a != b) = true then P else R := by rw [if_neg (by simp [hc])]; exact h
theorem bne_split {a b : Int} {P R : Prop} (h1 : a ≠ b → P) (h2 : a = b → R) : if (a != b) = true then P else R := by
  by_cases hc : a = b
  · exact bne_ff hc (h2 hc)
  · exact bne_tt hc (h1 hc)
theorem beq_tt {a b : Int} {P R : Prop} (hc : a = b) (h : P) : if (a == b) = true then P else R := by rw [if_pos (beq_iff_eq.mpr hc)]; exact h
theorem beq_ff {a b : Int} {P R : Prop} (hc : a ≠ b) (h : R) : if (a == b) = true then P else R := by rw [if_neg (by simpa using hc)]; exact h
theorem beq_split {a b : Int} {P R : Prop} (h1 : a = b → P) (h2 : a ≠ b → R) : if (a == b) = true then P else R := by
  by_cases hc : a = b
  · exact beq_tt hc (h1 hc)
  · exact beq_ff hc (h2 hc)
theorem not_ite {b : Bool} {P R : Prop} (h : if b = true then R else P) : if (!b) = true then P else R := by cases b <;> simpa using h
end

theorem bits_one : Builtin.Int.intBits 1 = 1 := by decide +kernel
def tobj (t : T4) (k1 k2 k3 k4 : Tok) (n : Nat) : Obj := { cls := .type "tuple", data := .seq #[.int t.s k1, .int t.m k2, .int t.e k3, .int t.b k4] n }

/-- the ledger, or the text's own written part, bears the object -/
def Bears (w : World) (news : List (Addr × Obj)) (a : Addr) (x : Obj) : Prop := (a, x) ∈ news ∨ (Mine.hd.heap_39 w.params).lookup a = some x
theorem Bears.mono {w : World} {news news' : List (Addr × Obj)} {a : Addr} {x : Obj} (h : Bears w news a x) (hs : ∀ q ∈ news, q ∈ news') : Bears w news' a x := h.imp (hs _) id
theorem Bears.app {w : World} {news tl : List (Addr × Obj)} {a : Addr} {x : Obj} (h : Bears w news a x) : Bears w (news ++ tl) a x := h.mono fun _ hq => List.mem_append.mpr (.inl hq)
theorem Bears.cons {w : World} {news : List (Addr × Obj)} {p : Addr × Obj} {a : Addr} {x : Obj} (h : Bears w news a x) : Bears w (p :: news) a x := h.mono fun _ hq => List.mem_cons_of_mem _ hq
theorem Bears.here {w : World} {news : List (Addr × Obj)} {a : Addr} {x : Obj} : Bears w ((a, x) :: news) a x := .inl (.head _)
theorem Bears.get {w : World} {news : List (Addr × Obj)} {a : Addr} {x : Obj} {h₀ h : Heap} {L : Addr} {m : Str → Option Value} (B : Bears w news a x) (F : Fr h₀ L h m) (X : (Mine.hd.heap_39 w.params).In h₀) (N : News h₀ L h news) : h.get? a = some x :=
  B.elim (fun hm => (N _ hm).1) fun hl => F.keep _ _ (X _ _ hl)

def Tn (w : World) (news : List (Addr × Obj)) (v : Value) (t : T4) : Prop := ∃ a k1 k2 k3 k4 n, v = .ref a ∧ Bears w news a (tobj t k1 k2 k3 k4 n)
theorem Tn.mono {w : World} {news news' : List (Addr × Obj)} {v : Value} {t : T4} (h : Tn w news v t) (hs : ∀ q ∈ news, q ∈ news') : Tn w news' v t :=
  let ⟨a, k1, k2, k3, k4, n, e, b⟩ := h
  ⟨a, k1, k2, k3, k4, n, e, b.mono hs⟩

theorem Tn.of_bears {w : World} {news : List (Addr × Obj)} {r : Addr} {t t' : T4} {k1 k2 k3 k4 : Tok} {n : Nat} (h : Bears w news r (tobj t' k1 k2 k3 k4 n)) (e : t = t') : Tn w news (.ref r) t := by
  subst e
  exact ⟨r, k1, k2, k3, k4, n, rfl, h⟩
theorem sub_app {news tl : List (Addr × Obj)} : ∀ q ∈ news, q ∈ news ++ tl := fun _ h => List.mem_append.mpr (.inl h)
theorem sub_cons {news : List (Addr × Obj)} {p : Addr × Obj} : ∀ q ∈ news, q ∈ p :: news := fun _ h => List.mem_cons_of_mem _ h
theorem sub_refl {news : List (Addr × Obj)} : ∀ q ∈ news, q ∈ news := fun _ h => h
theorem sub_trans {a b c : List (Addr × Obj)} (h : ∀ q ∈ a, q ∈ b) (k : ∀ q ∈ b, q ∈ c) : ∀ q ∈ a, q ∈ c := fun q hq => k q (h q hq)
theorem Tn.of_eq {w : World} {news : List (Addr × Obj)} {r : Addr} {t : T4} {a b c d : Int} {k1 k2 k3 k4 : Tok} (e : t = ⟨a, b, c, d⟩) :
    Tn w ((r, { cls := .type "tuple", data := .seq [Value.int a k1, .int b k2, .int c k3, .int d k4].toArray }) :: news) (.ref r) t := by
  subst e
  exact ⟨r, k1, k2, k3, k4, 0, rfl, .here⟩
section
variable {w : World} {A : Around} {E : Value → Shared → Prop} {env : Env} {h₀ : Heap} {L a : Addr} {m : Str → Option Value} {news : List (Addr × Obj)} {t : T4} {k1 k2 k3 k4 : Tok} {n : Nat}
  {h : Heap} {g : Array GenState} {d : Drawn} {tk : Nat} {o : OsState}
theorem Bears.isTup (B : Bears w news a (tobj t k1 k2 k3 k4 n)) (F : Fr h₀ L h m) (X : (Mine.hd.heap_39 w.params).In h₀) (N : News h₀ L h news) : IsTup h a #[.int t.s k1, .int t.m k2, .int t.e k3, .int t.b k4] :=
  ⟨_, B.get F X N, rfl, _, rfl⟩
theorem unpack_T {prog : Program} {elts : List Expr} {k : Nat} {pos : Pos} {Q : Unit → Shared → Prop} (B : Bears w news a (tobj t k1 k2 k3 k4 n)) (F : Fr h₀ L h m) (X : (Mine.hd.heap_39 w.params).In h₀) (N : News h₀ L h news)
    (hh : A.handled = none) (hn : (assignEach elts env).length = 4) (hstar : (assignEach elts env).findIdx? (·.1) = none)
    (H : ∀ h', Fr h₀ L h' m → News h₀ L h' news → wpAny (model prog w) A (assignInOrder ((assignEach elts env).map (·.2)) [.int t.s k1, .int t.m k2, .int t.e k3, .int t.b k4]) Q E ⟨h', g, d, tk, o⟩) :
    wpAny (model prog w) A (assign (.Tuple elts k pos) env (.ref a)) Q E ⟨h, g, d, tk, o⟩ :=
  unpackN_ F N (B.isTup F X N) hh hn hstar H
end

def T4.eqb (t u : T4) : Bool := t.s == u.s && (t.m == u.m && (t.e == u.e && t.b == u.b))
theorem T4.eqb_iff {t u : T4} : t.eqb u = true ↔ t = u := by
  cases t; cases u
  simp [T4.eqb]
theorem T4.eqb_self (t : T4) : t.eqb t = true := T4.eqb_iff.mpr rfl
def T4.d (t : T4) : PyData := .tuple [.int t.s, .int t.m, .int t.e, .int t.b]
theorem T4.same_d (t u : T4) : PySem.Spec.same t.d u.d = t.eqb u := by
  simp [T4.d, PySem.Spec.same, PySem.Spec.sameAll, T4.eqb]
theorem T4.shaped_d (t : T4) : PySem.SeqAt.shaped t.d = true := rfl
theorem T4.noMix_d (t u : T4) : PySem.SeqAt.noMix t.d u.d = true := by simp [T4.d, PySem.SeqAt.noMix, PySem.SeqAt.noMixAll]
theorem reads_T {h : Heap} {a : Addr} {t : T4} {k1 k2 k3 k4 : Tok} {n : Nat} (e : h.get? a = some (tobj t k1 k2 k3 k4 n)) : Reads h (.ref a) t.d [] := by
  refine Reads.tuple e rfl rfl ?_
  exact ReadsAll.cons (Reads.int _ _) (ReadsAll.cons (Reads.int _ _) (ReadsAll.cons (Reads.int _ _) (ReadsAll.cons (Reads.int _ _) ReadsAll.nil)))
section
variable {prog : Program} {w : World} {A : Around} {E : Value → Shared → Prop} {Q : Value → Shared → Prop} {h₀ : Heap} {L a b : Addr} {m : Str → Option Value} {news : List (Addr × Obj)} {t u : T4} {k1 k2 k3 k4 j1 j2 j3 j4 : Tok} {n n' : Nat}
  {h : Heap} {g : Array GenState} {d : Drawn} {tk : Nat} {o : OsState} {c1 c2 c3 c4 : Int}
theorem eq_T (B : Bears w news a (tobj t k1 k2 k3 k4 n)) (B' : Bears w news b (tobj u j1 j2 j3 j4 n')) (F : Fr h₀ L h m) (X : (Mine.hd.heap_39 w.params).In h₀) (N : News h₀ L h news) (hu : A.units + 64 < cLine)
    (H : Q (.bool (t.eqb u)) ⟨h, g, d, tk, o⟩) : wpAny (model prog w) A (compareOp .Eq (.ref a) (.ref b)) Q E ⟨h, g, d, tk, o⟩ :=
  eq_dataH_same (reads_T (B.get F X N)) (reads_T (B'.get F X N)) t.shaped_d u.shaped_d hu (T4.noMix_d t u) (by rw [T4.same_d]; exact H)
theorem ne_T (B : Bears w news a (tobj t k1 k2 k3 k4 n)) (B' : Bears w news b (tobj u j1 j2 j3 j4 n')) (F : Fr h₀ L h m) (X : (Mine.hd.heap_39 w.params).In h₀) (N : News h₀ L h news) (hu : A.units + 64 < cLine)
    (H : Q (.bool (!t.eqb u)) ⟨h, g, d, tk, o⟩) : wpAny (model prog w) A (compareOp .NotEq (.ref a) (.ref b)) Q E ⟨h, g, d, tk, o⟩ :=
  ne_dataH_same (reads_T (B.get F X N)) (reads_T (B'.get F X N)) t.shaped_d u.shaped_d hu (T4.noMix_d t u) (by rw [T4.same_d]; exact H)
/-- the right side a tuple that the text writes out -/
theorem eqL_T (B : Bears w news a (tobj t k1 k2 k3 k4 n)) (B' : Bears w news b { cls := .type "tuple", data := .seq [Value.int c1 j1, .int c2 j2, .int c3 j3, .int c4 j4].toArray }) (F : Fr h₀ L h m) (X : (Mine.hd.heap_39 w.params).In h₀) (N : News h₀ L h news) (hu : A.units + 64 < cLine)
    (H : Q (.bool (t.eqb ⟨c1, c2, c3, c4⟩)) ⟨h, g, d, tk, o⟩) : wpAny (model prog w) A (compareOp .Eq (.ref a) (.ref b)) Q E ⟨h, g, d, tk, o⟩ :=
  eq_T (u := ⟨c1, c2, c3, c4⟩) (n' := 0) B B' F X N hu H
theorem pow_T {x y : Int} {t1 t2 : Tok} (hn : 0 ≤ y) (hn2 : y ≤ 1000000) (ha : x.natAbs < 2 ^ 64) (H : ∀ t' tk', Q (.int (x ^ y.toNat) t') ⟨h, g, d, tk', o⟩) : wpAny (model prog w) A (binaryOp .Pow (.int x t1) (.int y t2)) Q E ⟨h, g, d, tk, o⟩ := pow_int_small hn hn2 ha (H _ _)
theorem item_T {value slice : Expr} {i : Int} {ui : Tok} {v : Value} (B : Bears w news a (tobj t k1 k2 k3 k4 n)) (F : Fr h₀ L h m) (X : (Mine.hd.heap_39 w.params).In h₀) (N : News h₀ L h news)
    (hi : 0 ≤ i ∧ i < 4) (hx : [Value.int t.s k1, .int t.m k2, .int t.e k3, .int t.b k4][i.toNat]? = some v) (H : Q v ⟨h, g, d, tk, o⟩)
    (hs : subscripted slice false (.ref a) (.int i ui) = operate [.ref a, .int i ui] (getItem (.ref a) (.int i ui))) :
    wpAny (model prog w) A (subscriptTail value slice (.ref a) (.int i ui)) Q E ⟨h, g, d, tk, o⟩ :=
  item_tupleT (l := [Value.int t.s k1, .int t.m k2, .int t.e k3, .int t.b k4]) (j := i.toNat) (B.isTup F X N) (by omega) (by omega) (by simp [seqIndex?]; omega) hx H hs
theorem eqb_tt {P R : Prop} (hc : t = u) (hp : P) : if t.eqb u = true then P else R := by rw [if_pos (T4.eqb_iff.mpr hc)]; exact hp
theorem eqb_ff {P R : Prop} (hc : t ≠ u) (hp : R) : if t.eqb u = true then P else R := by rw [if_neg (fun e => hc (T4.eqb_iff.mp e))]; exact hp
theorem eqb_ff_e {P R : Prop} (hc : t.e ≠ u.e) (hp : R) : if t.eqb u = true then P else R := eqb_ff (fun e => hc (by rw [e])) hp
end
theorem finfB (w : World) (news : List (Addr × Obj)) : Bears w news 24 (tobj ⟨0, 0, -456, -2⟩ 223 187 225 227 0) := .inr rfl
theorem fninfB (w : World) (news : List (Addr × Obj)) : Bears w news 25 (tobj ⟨1, 0, -789, -3⟩ 229 187 231 233 0) := .inr rfl
theorem fzeroB (w : World) (news : List (Addr × Obj)) : Bears w news 22 (tobj ⟨0, 0, 0, 0⟩ 213 187 214 215 0) := .inr rfl

/-- how a call's arguments are bound: said apart, so that one walk serves several ways to call -/
def BindsAt (w : World) (f : Addr) (vs : List Value) (binds : List (Str × Value)) : Prop :=
  ∀ (s : Shared) (oc : Value) (od : Option Addr) (fd : FuncData) (osl : Array (Option Value)), (Mine.hd.heap_39 w.params).In s.heap → (Mine.hd.heap_39 w.params).lookup f = some ⟨oc, od, .func fd, osl⟩ → BindsTo s fd ⟨vs, []⟩ binds
theorem BindsAt.of {w : World} {f : Addr} {vs : List Value} {binds : List (Str × Value)} {o : Obj} (e2 : (Mine.hd.heap_39 w.params).lookup f = some o)
    (h : ∀ (s : Shared) (fd : FuncData), (Mine.hd.heap_39 w.params).In s.heap → o.data = .func fd → BindsTo s fd ⟨vs, []⟩ binds) : BindsAt w f vs binds := by
  intro s oc od fd osl X e
  cases Option.some.inj (e.symm.trans e2)
  exact h s fd X rfl
theorem BindsAt.use {w : World} {f : Addr} {vs : List Value} {binds : List (Str × Value)} (H : BindsAt w f vs binds) {s : Shared} {oc : Value} {od : Option Addr} {fd : FuncData} {osl : Array (Option Value)} (X : (Mine.hd.heap_39 w.params).In s.heap) (e : (Mine.hd.heap_39 w.params).lookup f = some ⟨oc, od, .func fd, osl⟩) : BindsTo s fd ⟨vs, []⟩ binds := H s oc od fd osl X e
/-- a goal where the walk rests -/
def Stop (P : Prop) : Prop := P
theorem Stop.intro {P : Prop} (h : Stop P) : P := h
end Mine

-- CL
set_option maxRecDepth 100000
namespace Mine
open PySem PySem.W PyProof.Rows PySem.Spec PySem.Calls

def isTL (o : Obj) : Bool := o.cls == .type "tuple" || o.cls == .type "list"
/-- the tuples and lists of a ledger, and what is older than B -/
def tlf (B : Addr) (news : List (Addr × Obj)) : List (Addr × Obj) := news.filter fun p => isTL p.2 || decide (@LT.lt Nat _ p.1 B)
theorem mem_tlf {B : Addr} {news : List (Addr × Obj)} {p : Addr × Obj} (h : p ∈ news) (hc : isTL p.2 = true) : p ∈ tlf B news := List.mem_filter.mpr ⟨h, by rw [hc]; rfl⟩
theorem mem_tlf_old {B : Addr} {news : List (Addr × Obj)} {p : Addr × Obj} (h : p ∈ news) (hc : @LT.lt Nat _ p.1 B) : p ∈ tlf B news := List.mem_filter.mpr ⟨h, by rw [decide_eq_true hc, Bool.or_true]⟩
theorem tlf_sub {B : Addr} {news : List (Addr × Obj)} : ∀ p ∈ tlf B news, p ∈ news := fun _ h => (List.mem_filter.mp h).1
theorem tlf_is {B : Addr} {news : List (Addr × Obj)} {p : Addr × Obj} (h : p ∈ tlf B news) (e : p.1 = B) : isTL p.2 = true := by
  have := (List.mem_filter.mp h).2
  rw [e, decide_eq_false (Nat.lt_irrefl B), Bool.or_false] at this
  exact this
theorem isTL_tobj {t : T4} {k1 k2 k3 k4 : Tok} {n : Nat} : isTL (tobj t k1 k2 k3 k4 n) = true := rfl
theorem isTL_list {its : Array Value} {n : Nat} : isTL (listOf its n) = true := rfl
theorem isTL_tup {its : Array Value} {n : Nat} : isTL { cls := .type "tuple", data := .seq its n } = true := rfl
theorem Bears.tl {w : World} {B : Addr} {news : List (Addr × Obj)} {a : Addr} {x : Obj} (h : Bears w news a x) (hc : isTL x = true) : Bears w (tlf B news) a x := h.imp (fun m => mem_tlf m hc) id
theorem Tn.tl {w : World} {B : Addr} {news : List (Addr × Obj)} {v : Value} {t : T4} (h : Tn w news v t) : Tn w (tlf B news) v t :=
  let ⟨a, k1, k2, k3, k4, n, e, b⟩ := h
  ⟨a, k1, k2, k3, k4, n, e, b.tl rfl⟩
theorem isTL_iter {o : Obj} {c : String} (h : o.cls = .type c) (h1 : (c == "tuple") = false) (h2 : (c == "list") = false) : isTL o = false := by
  unfold isTL
  rw [h]
  have e1 : (Value.type c == Value.type "tuple") = false := by
    have : c ≠ "tuple" := by simpa using h1
    simp [this]
  have e2 : (Value.type c == Value.type "list") = false := by
    have : c ≠ "list" := by simpa using h2
    simp [this]
  rw [e1, e2]; rfl

section
variable {prog : Program} {w : World} {A : Around} {E : Value → Shared → Prop} {env : Env} {h₀ : Heap} {x : Str} {body : List Stmt} {Q : Flow → Shared → Prop}
  {h : Heap} {g : Array GenState} {d : Drawn} {tk : Nat} {o : OsState}

def TurnEnd (base : List (Addr × Obj)) (h₀ : Heap) (L : Addr) (own : List (Addr × Obj)) (J : (Str → Option Value) → List (Addr × Obj) → Prop) (g : Array GenState) (d : Drawn) (o : OsState) (s' : Shared) : Prop :=
  ∃ h' tk m' nf, s' = ⟨h', g, d, tk, o⟩ ∧ Fr h₀ L h' m' ∧ News h₀ L h' nf ∧ (∀ p ∈ own, p ∈ nf) ∧ ∀ B : Addr, (∀ q ∈ base, @LT.lt Nat _ q.1 B) → J m' (tlf B nf)
def TurnPost (base : List (Addr × Obj)) (h₀ : Heap) (L : Addr) (own : List (Addr × Obj)) (J : (Str → Option Value) → List (Addr × Obj) → Prop) (g : Array GenState) (d : Drawn) (o : OsState) (Q : Flow → Shared → Prop) (f : Flow) (s' : Shared) : Prop :=
  match f with
  | .ret v => Q (.ret v) s'
  | .brk => Q .next s'
  | _ => TurnEnd base h₀ L own J g d o s'
theorem TurnEnd.intro {L : Addr} {base own nf : List (Addr × Obj)} {J : (Str → Option Value) → List (Addr × Obj) → Prop} {h' : Heap} {m' : Str → Option Value} (F : Fr h₀ L h' m') (N : News h₀ L h' nf) (hs : ∀ p ∈ own, p ∈ nf) (hj : ∀ B : Addr, (∀ q ∈ base, @LT.lt Nat _ q.1 B) → J m' (tlf B nf)) : TurnEnd base h₀ L own J g d o ⟨h', g, d, tk, o⟩ :=
  ⟨h', tk, m', nf, rfl, F, N, hs, hj⟩

theorem loop_core {I : Addr} {fp : List Addr} {n : Nat} {P : Nat → Value → Prop} {St : Nat → Heap → Prop} {m₀ : Str → Option Value} {news : List (Addr × Obj)} (J : Nat → (Str → Option Value) → List (Addr × Obj) → Prop)
    (W : Walks prog w A I fp [I] n P St) (hI : I ∈ fp) (hLf : env.locals ∉ fp) (hnI : h₀.get? I = none) (hnw : ∀ p ∈ news, @LT.lt Nat _ p.1 I) (hst : St 0 h)
    (hcl : ∀ i h', St i h' → ∃ o, h'.get? I = some o ∧ isTL o = false)
    (F : Fr h₀ env.locals h m₀) (N : News h₀ env.locals h news) (hj : J 0 m₀ news)
    (turn : ∀ i v m₁ nx h tk own, i < n → P i v → J i m₁ nx → (∀ p ∈ own, isTL p.2 = true → p.1 ∈ fp ∧ p.1 ≠ I) → Fr h₀ env.locals h (fun y => if y = x then some v else m₁ y) → News h₀ env.locals h (own ++ nx) →
      wpAny (model prog w) A (execs body env) (TurnPost news h₀ env.locals own (J (i + 1)) g d o Q) E ⟨h, g, d, tk, o⟩)
    (done : ∀ m₁ nx h tk, J n m₁ nx → Fr h₀ env.locals h m₁ → News h₀ env.locals h nx → Q .next ⟨h, g, d, tk, o⟩) :
    LoopAtV prog w A h₀ env x body Q E (.ref I) ⟨h, g, d, tk, o⟩ := by
  refine ⟨I, fp, [I], n, P, St, m₀, news, J, rfl, W, hLf, fun b hb => by rw [List.mem_singleton.mp hb]; exact hnI, fun p hp hq => Nat.lt_irrefl _ ((List.mem_singleton.mp hq) ▸ hnw p hp), hst, F, N, hj, ?_, ?_⟩
  · rintro i v m₁ nx s₁ own ⟨hh', tk', rfl⟩ hin hP hJ hoff hown hget hmem hst' F₁ N₁
    obtain ⟨io, hio, hic⟩ := hcl _ _ hst'
    have hIo := hmem I hI hnI io hio
    refine wpAny_mono (turn i v m₁ nx hh' tk' own hin hP hJ (fun p hp hc => ⟨hown p hp, fun e => ?_⟩) F₁ N₁) (fun f s₂ p => ?_) fun _ _ e => e
    · have := hget p hp
      rw [e, hio] at this
      rw [Option.some.inj this, hc] at hic
      cases hic
    · have fin : TurnEnd news h₀ env.locals own (J (i + 1)) g d o s₂ → LoopStepU h₀ env.locals [I] own (J (i + 1)) ⟨hh', g, d, tk', o⟩ .next s₂ := by
        rintro ⟨h₂, tk₂, m₂, nf, rfl, F₂, N₂, hs, hj₂⟩
        refine ⟨rfl, h₂, tk₂, m₂, tlf I nf, rfl, F₂, fun p hp => N₂ p ((List.mem_append.mp hp).elim (hs p) (tlf_sub p)), fun p hp hq => ?_, hj₂ I hnw⟩
        have e1 := List.mem_singleton.mp hq
        have e2 := (N₂ p (tlf_sub p hp)).1
        have e3 := (N₂ _ (hs _ hIo)).1
        have e4 := tlf_is hp e1
        rw [e1] at e2
        rw [e3] at e2
        rw [← Option.some.inj e2, hic] at e4
        cases e4
      cases f with
      | ret v => exact .ret p
      | brk => exact .brk p
      | next => exact .next (fin p)
      | cont => exact .cont (fin p)
  · rintro h' tk' m' news' F' N' _ hJ
    exact done m' news' h' tk' hJ F' N'

theorem loop_list {l : Addr} {vs : List Value} {n : Nat} {m₀ : Str → Option Value} {news : List (Addr × Obj)} (J : Nat → (Str → Option Value) → List (Addr × Obj) → Prop)
    (hh : A.handled = none) (hm : (l, listOf vs.toArray n) ∈ news) (F : Fr h₀ env.locals h m₀) (N : News h₀ env.locals h news) (hj : J 0 m₀ news)
    (turn : ∀ i v m₁ nx h tk own, vs[i]? = some v → J i m₁ nx → (∀ p ∈ own, isTL p.2 = true → p.1 = l) → Fr h₀ env.locals h (fun y => if y = x then some v else m₁ y) → News h₀ env.locals h (own ++ nx) →
      wpAny (model prog w) A (execs body env) (TurnPost news h₀ env.locals own (J (i + 1)) g d o Q) E ⟨h, g, d, tk, o⟩)
    (done : ∀ m₁ nx h tk, J vs.length m₁ nx → Fr h₀ env.locals h m₁ → News h₀ env.locals h nx → Q .next ⟨h, g, d, tk, o⟩) :
    wpAny (model prog w) A (pyIter (.ref l)) (fun it s₂ => LoopAtV prog w A h₀ env x body Q E it s₂) E ⟨h, g, d, tk, o⟩ := by
  have hol : h.get? l = some (listOf vs.toArray n) := (N _ hm).1
  have hls : h.IsList l vs.toArray := ⟨_, hol, rfl, n, rfl⟩
  have hlt : l < h.objs.size := Heap.lt_size hol
  have hne : l ≠ h.objs.size := Nat.ne_of_lt hlt
  refine wpAny_pyIter_list (s := ⟨h, g, d, tk, o⟩) hls ?_
  have W := Walks.list (prog := prog) (w := w) hh h.objs.size l hne vs.toArray
  have hsz : vs.toArray.size = vs.length := by simp
  rw [hsz] at W
  refine loop_core (news := news) J W (by simp) ?_ (next_is_new F) ?_ ⟨⟨_, Heap.get?_push_size _ rfl, rfl, rfl⟩, hls.push _⟩ ?_ (F.push _) (fun p hp => ⟨Heap.get?_push_of_some _ (N p hp).1, (N p hp).2⟩) hj ?_ done
  · intro hmem
    rcases List.mem_cons.mp hmem with e | hmem
    · exact absurd F.ns.lt (e ▸ Nat.lt_irrefl _)
    · exact (N _ hm).2.1 (List.mem_singleton.mp hmem).symm
  · intro p hp
    exact Heap.lt_size (N p hp).1
  · rintro i h' ⟨⟨o', ho', hc, _⟩, _⟩
    exact ⟨o', ho', isTL_iter hc rfl rfl⟩
  · intro i v m₁ nx h tk own hi hP hJ hown F₁ N₁
    refine turn i v m₁ nx h tk own (by simpa using hP) hJ (fun p hp hc => ?_) F₁ N₁
    have h1 := hown p hp hc
    rcases List.mem_cons.mp h1.1 with e | e
    · exact absurd e h1.2
    · exact List.mem_singleton.mp e

theorem loop_range {r : Addr} {b₀ : Int} {t₀ u₀ v₀ : Tok} {a₀ : Int} {n : Nat} {m₀ : Str → Option Value} {news : List (Addr × Obj)} (J : Nat → (Str → Option Value) → List (Addr × Obj) → Prop)
    (hh : A.handled = none) (hr : IsRange h r a₀ b₀ 1 t₀ u₀ v₀) (hsmall : Builtin.Range.small a₀ b₀ 1 = true) (hsz : Builtin.Range.rangeSize a₀ b₀ 1 = (n : Int)) (F : Fr h₀ env.locals h m₀) (N : News h₀ env.locals h news) (hj : J 0 m₀ news)
    (turn : ∀ i t m₁ nx h tk own, i < n → J i m₁ nx → (∀ p ∈ own, isTL p.2 = false) → Fr h₀ env.locals h (fun y => if y = x then some (.int (a₀ + (i : Nat)) t) else m₁ y) → News h₀ env.locals h (own ++ nx) →
      wpAny (model prog w) A (execs body env) (TurnPost news h₀ env.locals own (J (i + 1)) g d o Q) E ⟨h, g, d, tk, o⟩)
    (done : ∀ m₁ nx h tk, J n m₁ nx → Fr h₀ env.locals h m₁ → News h₀ env.locals h nx → Q .next ⟨h, g, d, tk, o⟩) :
    wpAny (model prog w) A (pyIter (.ref r)) (fun it s₂ => LoopAtV prog w A h₀ env x body Q E it s₂) E ⟨h, g, d, tk, o⟩ := by
  refine wpAny_pyIter_range (s := ⟨h, g, d, tk, o⟩) hr hsmall ?_
  have W := Walks.range (prog := prog) (w := w) hh h.objs.size a₀ 1 n
  refine loop_core (news := news) J W (by simp) ?_ (next_is_new F) ?_ (by show IsRangeIter _ _ _ _ _; rw [hsz]; simpa using Heap.get?_push_size _ rfl) ?_ (F.push _) (fun p hp => ⟨Heap.get?_push_of_some _ (N p hp).1, (N p hp).2⟩) hj ?_ done
  · intro hmem
    exact absurd F.ns.lt ((List.mem_singleton.mp hmem) ▸ Nat.lt_irrefl _)
  · intro p hp
    exact Heap.lt_size (N p hp).1
  · intro i h' ho'
    exact ⟨_, ho', isTL_iter (c := "range_iterator") rfl rfl rfl⟩
  · rintro i v m₁ nx h tk own hi ⟨t, rfl⟩ hJ hown F₁ N₁
    have e1 : a₀ + (i : Int) * 1 = a₀ + (i : Int) := by omega
    rw [e1] at F₁
    refine turn i t m₁ nx h tk own hi hJ (fun p hp => ?_) F₁ N₁
    cases hc : isTL p.2 with
    | false => rfl
    | true =>
      have h1 := hown p hp hc
      exact absurd (List.mem_singleton.mp h1.1) h1.2
end

section
variable {w : World} {A : Around} {E : Value → Shared → Prop} {env : Env} {h₀ : Heap} {x : Str} {body : List Stmt}
  {h : Heap} {g : Array GenState} {d : Drawn} {tk : Nat} {o : OsState}
theorem isi_T {prog : Program} {L a : Addr} {m : Str → Option Value} {news : List (Addr × Obj)} {t : T4} {k1 k2 k3 k4 : Tok} {n : Nat} {Q : Value → Shared → Prop} (B : Bears w news a (tobj t k1 k2 k3 k4 n)) (F : Fr h₀ L h m) (X : (Mine.hd.heap_39 w.params).In h₀) (N : News h₀ L h news)
    (H : Q (.bool true) ⟨h, g, d, tk, o⟩) : wpAny (model prog w) A (call (.builtin "isinstance") [.ref a, .type "tuple"]) Q E ⟨h, g, d, tk, o⟩ :=
  IsiPair.isTuple_tuple (h₀ := h) (B.isTup F X N) (fun _ _ e => e) H
theorem len_T {prog : Program} {L a : Addr} {m : Str → Option Value} {news : List (Addr × Obj)} {t : T4} {k1 k2 k3 k4 : Tok} {n : Nat} {Q : Value → Shared → Prop} (B : Bears w news a (tobj t k1 k2 k3 k4 n)) (F : Fr h₀ L h m) (X : (Mine.hd.heap_39 w.params).In h₀) (N : News h₀ L h news)
    (H : ∀ t' tk', Q (.int 4 t') ⟨h, g, d, tk', o⟩) : wpAny (model prog w) A (call (.builtin "len") [.ref a]) Q E ⟨h, g, d, tk, o⟩ :=
  PyProof.Rows.len_tuple (B.isTup F X N) (by simp) (H _ _)

theorem loop_tuple {prog : Program} {Q : Flow → Shared → Prop} {a : Addr} {t : T4} {k1 k2 k3 k4 : Tok} {n : Nat} {m₀ : Str → Option Value} {news : List (Addr × Obj)} (J : Nat → (Str → Option Value) → List (Addr × Obj) → Prop)
    (hh : A.handled = none) (B : Bears w news a (tobj t k1 k2 k3 k4 n)) (F : Fr h₀ env.locals h m₀) (X : (Mine.hd.heap_39 w.params).In h₀) (N : News h₀ env.locals h news) (hj : J 0 m₀ news)
    (turn : ∀ i z tz m₁ nx h tk own, J i m₁ nx → Fr h₀ env.locals h (fun y => if y = x then some (.int z tz) else m₁ y) → News h₀ env.locals h (own ++ nx) →
      wpAny (model prog w) A (execs body env) (TurnPost news h₀ env.locals own (J (i + 1)) g d o Q) E ⟨h, g, d, tk, o⟩)
    (done : ∀ m₁ nx h tk, J 4 m₁ nx → Fr h₀ env.locals h m₁ → News h₀ env.locals h nx → Q .next ⟨h, g, d, tk, o⟩) :
    wpAny (model prog w) A (pyIter (.ref a)) (fun it s₂ => LoopAtV prog w A h₀ env x body Q E it s₂) E ⟨h, g, d, tk, o⟩ := by
  have hol := B.get F X N
  have hls : h.IsTuple a #[.int t.s k1, .int t.m k2, .int t.e k3, .int t.b k4] := B.isTup F X N
  have hlt : a < h.objs.size := Heap.lt_size hol
  have hne : a ≠ h.objs.size := Nat.ne_of_lt hlt
  refine wpAny_pyIter_tuple (s := ⟨h, g, d, tk, o⟩) hls ?_
  have W := Walks.tuple (prog := prog) (w := w) hh h.objs.size a hne #[.int t.s k1, .int t.m k2, .int t.e k3, .int t.b k4]
  refine loop_core (news := news) J W (by simp) ?_ (next_is_new F) ?_ ⟨⟨_, Heap.get?_push_size _ rfl, rfl, rfl⟩, hls.push _⟩ ?_ (F.push _) (fun p hp => ⟨Heap.get?_push_of_some _ (N p hp).1, (N p hp).2⟩) hj ?_ done
  · intro hmem
    rcases List.mem_cons.mp hmem with e | hmem
    · exact absurd F.ns.lt (e ▸ Nat.lt_irrefl _)
    · have e := List.mem_singleton.mp hmem
      rcases B with hb | hb
      · exact (N _ hb).2.1 e.symm
      · exact Nat.lt_irrefl _ (Nat.lt_of_lt_of_le (Heap.lt_size (X _ _ hb)) (e ▸ F.above))
  · intro p hp
    exact Heap.lt_size (N p hp).1
  · rintro i h' ⟨⟨o', ho', hc, _⟩, _⟩
    exact ⟨o', ho', isTL_iter hc rfl rfl⟩
  · intro i v m₁ nx h tk own hi hP hJ hown F₁ N₁
    have hv : ∃ z tz, v = .int z tz := by
      have hi4 : i < 4 := hi
      have : i = 0 ∨ i = 1 ∨ i = 2 ∨ i = 3 := by omega
      rcases this with rfl | rfl | rfl | rfl <;> exact ⟨_, _, (Option.some.inj hP).symm⟩
    obtain ⟨z, tz, rfl⟩ := hv
    exact turn i z tz m₁ nx h tk own hJ F₁ N₁
end

section
variable {prog : Program} {w : World} {A : Around} {E : Value → Shared → Prop} {Q : Value → Shared → Prop} {h₀ : Heap} {L : Addr} {m : Str → Option Value} {news : List (Addr × Obj)} {a b : Int} {t u : Tok}
  {h : Heap} {g : Array GenState} {d : Drawn} {tk : Nat} {o : OsState}
theorem divmod_T (F : Fr h₀ L h m) (N : News h₀ L h news) (hb : b ≠ 0) (hp : b.natAbs.log2 < 9000)
    (H : ∀ h' r t1 t2 tk', Fr h₀ L h' m → News h₀ L h' ((r, { cls := .type "tuple", data := .seq #[.int (a.fdiv b) t1, .int (a.fmod b) t2] }) :: news) → Q (.ref r) ⟨h', g, d, tk', o⟩) :
    wpAny (model prog w) A (call (.builtin "divmod") [.int a t, .int b u]) Q E ⟨h, g, d, tk, o⟩ :=
  divmod_N (s := ⟨h, g, d, tk, o⟩) F N hb (fun h' F' N' => H h' _ _ _ _ F' N') (.inl (PyProof.noPylong_of_log2 hp))
end
end Mine

-- C1
set_option maxRecDepth 100000
namespace Mine
open PySem PySem.W PyProof.Rows PySem.Spec PySem.Calls
-- the walk's own lines: each step's token and heap named anew
local macro_rules | `(tactic| walk_at "binaryOp Add int int") => `(tactic| (with_reducible refine add_T ?_; intro _ _))
local macro_rules | `(tactic| walk_at "binaryOp Sub int int") => `(tactic| (with_reducible refine sub_T ?_; intro _ _))
local macro_rules | `(tactic| walk_at "binaryOp BitAnd int int") => `(tactic| (with_reducible refine and_T ?_; intro _ _))
local macro_rules | `(tactic| walk_at "binaryOp BitXor int int") => `(tactic| (with_reducible refine xor_T ?_; intro _ _))
local macro_rules | `(tactic| walk_at "inplaceOp Add int int") => `(tactic| (with_reducible refine iadd_T ?_; intro _ _))
local macro_rules | `(tactic| walk_at "inplaceOp Sub int int") => `(tactic| (with_reducible refine isub_T ?_; intro _ _))
local macro_rules | `(tactic| walk_at "inplaceOp BitXor int int") => `(tactic| (with_reducible refine ixor_T ?_; intro _ _))
local macro_rules | `(tactic| walk_at "binaryOp RShift int int") => `(tactic| ((with_reducible refine rsh_T ?_ ?_); omega; intro _ _))
local macro_rules | `(tactic| walk_at "inplaceOp RShift int int") => `(tactic| ((with_reducible refine irsh_T ?_ ?_); omega; intro _ _))
local macro_rules | `(tactic| walk_at "binaryOp LShift int int") => `(tactic| ((with_reducible refine lsh_T ?_ ?_ ?_); omega; (try simp only [bits_one]); omega; intro _ _))
local macro_rules | `(tactic| walk_at "inplaceOp LShift int int") => `(tactic| ((with_reducible refine ilsh_T ?_ ?_ ?_); omega; (try simp only [bits_one]); omega; intro _ _))
local macro_rules | `(tactic| walk_at "unaryOp USub int") => `(tactic| (with_reducible refine neg_T ?_; intro _ _))
local macro_rules | `(tactic| walk_at "call builtin:int.bit_length") => `(tactic| (with_reducible refine bits_T ?_; intro _ _))
local macro_rules | `(tactic| walk_at "eval Constant int") => `(tactic| (with_reducible refine const_T ?_; intro _ _))
local macro_rules | `(tactic| walk_at "storeName") => `(tactic| (k_here; k_dflt (refine' store_T ?F ?N ?_ ?a ?b; (case F => k_asm); (case N => k_asm); (case a => rfl); (case b => rfl); k_whole); intro h' tk' F' N'; (try k_sweep)))
local macro_rules | `(tactic| walk_at "newTuple") => `(tactic| (k_here; k_dflt (refine' tuple_T ?F ?N ?s ?_; (case F => k_asm); (case N => k_asm); (case s => decide); k_whole); intro h' r' F' N'; (try k_sweep)))
local macro_rules | `(tactic| walk_at "assign Tuple") => `(tactic| (k_here; (with_reducible show wpAny _ _ (assign (Expr.Tuple _ _ _) _ (Value.ref _)) _ _ _); k_dflt (refine' unpack_T ?B ?F ?X ?N ?a ?b ?c ?_; (case F => k_asm); (case X => k_asm); (case N => k_asm); (case B => (repeat (first | assumption | with_reducible exact Bears.here | exact finfB _ _ | exact fninfB _ _ | exact fzeroB _ _ | with_reducible refine Bears.cons ?_ | with_reducible refine Bears.app ?_))); (case a => rfl); (case b => rfl); (case c => rfl); k_whole); intro h' F' N'; (try k_sweep)))
local macro_rules | `(tactic| walk_at "ite") => `(tactic| with_reducible first
  | (refine dec_split ?_ ?_ <;> intro _) | (refine bne_split ?_ ?_ <;> intro _) | (refine beq_split ?_ ?_ <;> intro _))
local macro_rules | `(tactic| walk_at "compareOp Eq ref ref") => `(tactic| (k_here; k_dflt (first
  | (refine' eq_T ?B ?C ?F ?X ?N ?u ?_; (case F => k_asm); (case X => k_asm); (case N => k_asm); (case B => (repeat (first | assumption | with_reducible exact Bears.here | exact finfB _ _ | exact fninfB _ _ | exact fzeroB _ _ | with_reducible refine Bears.cons ?_ | with_reducible refine Bears.app ?_))); (case C => (repeat (first | assumption | with_reducible exact Bears.here | exact finfB _ _ | exact fninfB _ _ | exact fzeroB _ _ | with_reducible refine Bears.cons ?_ | with_reducible refine Bears.app ?_))); (case u => ((try dsimp only [Around.deeper, Around.in1, ktrTop]); omega)); k_whole)
  | (refine' eqL_T ?B ?C ?F ?X ?N ?u ?_; (case F => k_asm); (case X => k_asm); (case N => k_asm); (case B => (repeat (first | assumption | with_reducible exact Bears.here | exact finfB _ _ | exact fninfB _ _ | exact fzeroB _ _ | with_reducible refine Bears.cons ?_ | with_reducible refine Bears.app ?_))); (case C => (repeat (first | assumption | with_reducible exact Bears.here | exact finfB _ _ | exact fninfB _ _ | exact fzeroB _ _ | with_reducible refine Bears.cons ?_ | with_reducible refine Bears.app ?_))); (case u => ((try dsimp only [Around.deeper, Around.in1, ktrTop]); omega)); k_whole))))
local macro_rules | `(tactic| walk_at "compareOp NotEq ref ref") => `(tactic| (k_here; k_dflt (refine' ne_T ?B ?C ?F ?X ?N ?u ?_; (case F => k_asm); (case X => k_asm); (case N => k_asm); (case B => (repeat (first | assumption | with_reducible exact Bears.here | exact finfB _ _ | exact fninfB _ _ | exact fzeroB _ _ | with_reducible refine Bears.cons ?_ | with_reducible refine Bears.app ?_))); (case C => (repeat (first | assumption | with_reducible exact Bears.here | exact finfB _ _ | exact fninfB _ _ | exact fzeroB _ _ | with_reducible refine Bears.cons ?_ | with_reducible refine Bears.app ?_))); (case u => ((try dsimp only [Around.deeper, Around.in1, ktrTop]); omega)); k_whole)))
local macro_rules | `(tactic| walk_at "subscriptTail") => `(tactic| (k_here; (with_reducible show wpAny _ _ (subscriptTail _ _ (Value.ref _) (Value.int _ _)) _ _ _); k_dflt (refine' item_T ?B ?F ?X ?N ?i ?x ?_ ?s; (case F => k_asm); (case X => k_asm); (case N => k_asm); (case B => (repeat (first | assumption | with_reducible exact Bears.here | exact finfB _ _ | exact fninfB _ _ | exact fzeroB _ _ | with_reducible refine Bears.cons ?_ | with_reducible refine Bears.app ?_))); (case i => omega); (case x => rfl); (case s => with_unfolding_all rfl); k_whole)))
local macro_rules | `(tactic| walk_at "binaryOp Pow int int") => `(tactic| ((with_reducible refine pow_T ?_ ?_ ?_ ?_); omega; omega; omega; intro _ _))
local macro_rules | `(tactic| walk_at "ite") => `(tactic| with_reducible first
  | (refine eqb_tt (by assumption) ?_) | (refine eqb_ff (by assumption) ?_) | (refine eqb_ff_e (by (dsimp only; omega)) ?_))
local macro_rules | `(tactic| walk_at "ite") => `(tactic| with_reducible first
  | (refine dec_tt (by omega) ?_) | (refine dec_ff (by omega) ?_) | (refine bne_tt (by omega) ?_) | (refine bne_ff (by omega) ?_) | (refine beq_tt (by omega) ?_) | (refine beq_ff (by omega) ?_) | (refine not_ite ?_))
local macro_rules | `(tactic| walk_at "eval Name") => `(tactic| (k_here; k_dflt (refine' name_G ?F ?X ?T ?e ?_ ?a ?b ?c; (case F => k_asm); (case X => k_asm); (case T => k_asm); (case e => k_is); (case b => kernel_rfl);  (case a => rfl); (case c => kernel_rfl); k_whole)))
local macro_rules | `(tactic| walk_at "eval Name") => `(tactic| (k_here; k_dflt (refine' name_T ?F ?v ?_ ?a ?b ?c; (case F => k_asm); (case v => (first | with_reducible exact look_here | with_reducible assumption | (simp only [ofString_eq, mapOf, String.reduceEq, ↓reduceIte] <;> first | rfl | with_reducible assumption))); (case b => kernel_rfl); (case a => rfl); (case c => kernel_rfl); k_whole)))
local macro_rules | `(tactic| walk_at "loadName") => `(tactic| (k_here; k_dflt (refine' loadn_T ?F ?v ?_ ?a ?b; (case F => k_asm); (case v => (first | with_reducible exact look_here | with_reducible assumption | (simp only [ofString_eq, mapOf, String.reduceEq, ↓reduceIte] <;> first | rfl | with_reducible assumption))); (case b => kernel_rfl); (case a => rfl); k_whole)))
local macro_rules | `(tactic| walk_at "exec If") => `(tactic| with_reducible refine wpAny_If ?_)
local macro_rules | `(tactic| walk_at "exec For Name Name cons nil") => `(tactic| (refine Stop.intro ?_))
local macro_rules | `(tactic| walk_at "exec For Name Call cons nil") => `(tactic| (refine Stop.intro ?_))
local macro_rules | `(tactic| walk_at "exec While Compare cons nil") => `(tactic| (refine Stop.intro ?_))
local macro_rules | `(tactic| walk_at "exec While BoolOp cons nil") => `(tactic| (refine Stop.intro ?_))
local macro_rules | `(tactic| walk_at "call builtin:isinstance") => `(tactic| (k_here; (with_reducible show wpAny _ _ (call (Value.builtin "isinstance") [Value.ref _, Value.type "tuple"]) _ _ _); k_dflt (refine' isi_T ?B ?F ?X ?N ?_; (case F => k_asm); (case X => k_asm); (case N => k_asm); (case B => (repeat (first | assumption | with_reducible exact Bears.here | exact finfB _ _ | exact fninfB _ _ | exact fzeroB _ _ | with_reducible refine Bears.cons ?_ | with_reducible refine Bears.app ?_))); k_whole)))
local macro_rules | `(tactic| walk_at "call builtin:len") => `(tactic| (k_here; (with_reducible show wpAny _ _ (call (Value.builtin "len") [Value.ref _]) _ _ _); k_dflt (refine' len_T ?B ?F ?X ?N ?_; (case F => k_asm); (case X => k_asm); (case N => k_asm); (case B => (repeat (first | assumption | with_reducible exact Bears.here | exact finfB _ _ | exact fninfB _ _ | exact fzeroB _ _ | with_reducible refine Bears.cons ?_ | with_reducible refine Bears.app ?_))); k_whole); intro _ _))
local macro_rules | `(tactic| walk_at "call builtin:divmod") => `(tactic| (k_here; k_dflt (refine' divmod_T ?F ?N ?b ?p ?_; (case F => k_asm); (case N => k_asm); (case b => first | with_reducible assumption | omega); (case p => with_reducible assumption); k_whole); intro h' r' t1' t2' tk' F' N'; (try k_sweep)))
local macro_rules | `(tactic| walk_at "inplaceOp FloorDiv int int") => `(tactic| ((with_reducible refine ifdiv_T ?_ ?_ ?_); decide; decide +kernel; intro _ _))
local macro_rules | `(tactic| walk_at "binaryOp Mod int int") => `(tactic| ((with_reducible refine mod_T ?_ ?_); omega; intro _ _))

set_option maxHeartbeats 4000000 in
theorem g_trailing {w : World} {news : List (Addr × Obj)} (n : Int) (t : Tok) : MGivesP w 1 21 [.int n t] news (fun r => ∃ tk, r = .int ((tz n.natAbs : Nat) : Int) tk) := by
  refine MGives.intro ?_
  k_fill
  intro _ _
  unfold MGives
  intro p loose mean mg mb dp un gd cn cs a ccd cl outer A₀ base h₀ L m s Q E B F X N T hk hd hu hret
  refine wpAny_call ?_
  k_dflt (refine' code_def ?k1 ?k2 ?k3 ?k4 ?k5 ?kA ?kF ?kK ?k6 ?k7 ?k8 ?k9 ?kB ?_ ?c2 ?c3 ?c4 ?c5; (case kA => exact rfl); (case kF => exact rfl); (case kK => assumption); (case k1 => k_asm); (case k2 => k_asm); (case k3 => k_asm); (case k4 => k_asm); (case k5 => k_asm); (case k6 => k_is); (case k7 => k_is); (case k8 => ((try dsimp only [Around.deeper, Around.in1, ktrTop]); omega)); (case k9 => first | exact BindsTo.of_eq rfl | exact binds_K (by k_in) rfl (by k_is) rfl rfl rfl); (case c5 => decide); (case kB => exact locs rfl); (case c2 => exact rfl); (case c3 => exact rfl); (case c4 => exact rfl); k_whole; intro g₁ L₁ h₁ FG₁ F₁ N₁ B₁ X₁ T₁; (try dsimp only); (try k_fold))
  replace F₁ : Fr g₁ L₁ h₁ (mapOf [(Str.ofString "n", .int n t)]) := fr_lookup F₁
  k_steps
  all_goals (refine hret _ _ _ _ (by k_asm) (by k_asm) (fun _ h => h) ?_)
  · exact ⟨_, by rw [trail (by assumption)]⟩
  · have h0 : n = 0 := by assumption
    have e : ((tz n.natAbs : Nat) : Int) = 0 := by rw [h0]; simp [tz_zero]
    show ∃ tk, _ = Value.int ((tz n.natAbs : Nat) : Int) tk
    rw [e]
    exact ⟨_, rfl⟩
end Mine

-- C2
set_option maxRecDepth 100000
namespace Mine
open PySem PySem.W PyProof.Rows PySem.Spec PySem.Calls
-- the walk's own lines: each step's token and heap named anew
local macro_rules | `(tactic| walk_at "binaryOp Add int int") => `(tactic| (with_reducible refine add_T ?_; intro _ _))
local macro_rules | `(tactic| walk_at "binaryOp Sub int int") => `(tactic| (with_reducible refine sub_T ?_; intro _ _))
local macro_rules | `(tactic| walk_at "binaryOp BitAnd int int") => `(tactic| (with_reducible refine and_T ?_; intro _ _))
local macro_rules | `(tactic| walk_at "binaryOp BitXor int int") => `(tactic| (with_reducible refine xor_T ?_; intro _ _))
local macro_rules | `(tactic| walk_at "inplaceOp Add int int") => `(tactic| (with_reducible refine iadd_T ?_; intro _ _))
local macro_rules | `(tactic| walk_at "inplaceOp Sub int int") => `(tactic| (with_reducible refine isub_T ?_; intro _ _))
local macro_rules | `(tactic| walk_at "inplaceOp BitXor int int") => `(tactic| (with_reducible refine ixor_T ?_; intro _ _))
local macro_rules | `(tactic| walk_at "binaryOp RShift int int") => `(tactic| ((with_reducible refine rsh_T ?_ ?_); omega; intro _ _))
local macro_rules | `(tactic| walk_at "inplaceOp RShift int int") => `(tactic| ((with_reducible refine irsh_T ?_ ?_); omega; intro _ _))
local macro_rules | `(tactic| walk_at "binaryOp LShift int int") => `(tactic| ((with_reducible refine lsh_T ?_ ?_ ?_); omega; (try simp only [bits_one]); omega; intro _ _))
local macro_rules | `(tactic| walk_at "inplaceOp LShift int int") => `(tactic| ((with_reducible refine ilsh_T ?_ ?_ ?_); omega; (try simp only [bits_one]); omega; intro _ _))
local macro_rules | `(tactic| walk_at "unaryOp USub int") => `(tactic| (with_reducible refine neg_T ?_; intro _ _))
local macro_rules | `(tactic| walk_at "call builtin:int.bit_length") => `(tactic| (with_reducible refine bits_T ?_; intro _ _))
local macro_rules | `(tactic| walk_at "eval Constant int") => `(tactic| (with_reducible refine const_T ?_; intro _ _))
local macro_rules | `(tactic| walk_at "storeName") => `(tactic| (k_here; k_dflt (refine' store_T ?F ?N ?_ ?a ?b; (case F => k_asm); (case N => k_asm); (case a => rfl); (case b => rfl); k_whole); intro h' tk' F' N'; (try k_sweep)))
local macro_rules | `(tactic| walk_at "newTuple") => `(tactic| (k_here; k_dflt (refine' tuple_T ?F ?N ?s ?_; (case F => k_asm); (case N => k_asm); (case s => decide); k_whole); intro h' r' F' N'; (try k_sweep)))
local macro_rules | `(tactic| walk_at "assign Tuple") => `(tactic| (k_here; (with_reducible show wpAny _ _ (assign (Expr.Tuple _ _ _) _ (Value.ref _)) _ _ _); k_dflt (refine' unpack_T ?B ?F ?X ?N ?a ?b ?c ?_; (case F => k_asm); (case X => k_asm); (case N => k_asm); (case B => (repeat (first | assumption | with_reducible exact Bears.here | exact finfB _ _ | exact fninfB _ _ | exact fzeroB _ _ | with_reducible refine Bears.cons ?_ | with_reducible refine Bears.app ?_))); (case a => rfl); (case b => rfl); (case c => rfl); k_whole); intro h' F' N'; (try k_sweep)))
local macro_rules | `(tactic| walk_at "ite") => `(tactic| with_reducible first
  | (refine dec_split ?_ ?_ <;> intro _) | (refine bne_split ?_ ?_ <;> intro _) | (refine beq_split ?_ ?_ <;> intro _))
local macro_rules | `(tactic| walk_at "compareOp Eq ref ref") => `(tactic| (k_here; k_dflt (first
  | (refine' eq_T ?B ?C ?F ?X ?N ?u ?_; (case F => k_asm); (case X => k_asm); (case N => k_asm); (case B => (repeat (first | assumption | with_reducible exact Bears.here | exact finfB _ _ | exact fninfB _ _ | exact fzeroB _ _ | with_reducible refine Bears.cons ?_ | with_reducible refine Bears.app ?_))); (case C => (repeat (first | assumption | with_reducible exact Bears.here | exact finfB _ _ | exact fninfB _ _ | exact fzeroB _ _ | with_reducible refine Bears.cons ?_ | with_reducible refine Bears.app ?_))); (case u => ((try dsimp only [Around.deeper, Around.in1, ktrTop]); omega)); k_whole)
  | (refine' eqL_T ?B ?C ?F ?X ?N ?u ?_; (case F => k_asm); (case X => k_asm); (case N => k_asm); (case B => (repeat (first | assumption | with_reducible exact Bears.here | exact finfB _ _ | exact fninfB _ _ | exact fzeroB _ _ | with_reducible refine Bears.cons ?_ | with_reducible refine Bears.app ?_))); (case C => (repeat (first | assumption | with_reducible exact Bears.here | exact finfB _ _ | exact fninfB _ _ | exact fzeroB _ _ | with_reducible refine Bears.cons ?_ | with_reducible refine Bears.app ?_))); (case u => ((try dsimp only [Around.deeper, Around.in1, ktrTop]); omega)); k_whole))))
local macro_rules | `(tactic| walk_at "compareOp NotEq ref ref") => `(tactic| (k_here; k_dflt (refine' ne_T ?B ?C ?F ?X ?N ?u ?_; (case F => k_asm); (case X => k_asm); (case N => k_asm); (case B => (repeat (first | assumption | with_reducible exact Bears.here | exact finfB _ _ | exact fninfB _ _ | exact fzeroB _ _ | with_reducible refine Bears.cons ?_ | with_reducible refine Bears.app ?_))); (case C => (repeat (first | assumption | with_reducible exact Bears.here | exact finfB _ _ | exact fninfB _ _ | exact fzeroB _ _ | with_reducible refine Bears.cons ?_ | with_reducible refine Bears.app ?_))); (case u => ((try dsimp only [Around.deeper, Around.in1, ktrTop]); omega)); k_whole)))
local macro_rules | `(tactic| walk_at "subscriptTail") => `(tactic| (k_here; (with_reducible show wpAny _ _ (subscriptTail _ _ (Value.ref _) (Value.int _ _)) _ _ _); k_dflt (refine' item_T ?B ?F ?X ?N ?i ?x ?_ ?s; (case F => k_asm); (case X => k_asm); (case N => k_asm); (case B => (repeat (first | assumption | with_reducible exact Bears.here | exact finfB _ _ | exact fninfB _ _ | exact fzeroB _ _ | with_reducible refine Bears.cons ?_ | with_reducible refine Bears.app ?_))); (case i => omega); (case x => rfl); (case s => with_unfolding_all rfl); k_whole)))
local macro_rules | `(tactic| walk_at "binaryOp Pow int int") => `(tactic| ((with_reducible refine pow_T ?_ ?_ ?_ ?_); omega; omega; omega; intro _ _))
local macro_rules | `(tactic| walk_at "ite") => `(tactic| with_reducible first
  | (refine eqb_tt (by assumption) ?_) | (refine eqb_ff (by assumption) ?_) | (refine eqb_ff_e (by (dsimp only; omega)) ?_))
local macro_rules | `(tactic| walk_at "ite") => `(tactic| with_reducible first
  | (refine dec_tt (by omega) ?_) | (refine dec_ff (by omega) ?_) | (refine bne_tt (by omega) ?_) | (refine bne_ff (by omega) ?_) | (refine beq_tt (by omega) ?_) | (refine beq_ff (by omega) ?_) | (refine not_ite ?_))
local macro_rules | `(tactic| walk_at "eval Name") => `(tactic| (k_here; k_dflt (refine' name_G ?F ?X ?T ?e ?_ ?a ?b ?c; (case F => k_asm); (case X => k_asm); (case T => k_asm); (case e => k_is); (case b => kernel_rfl);  (case a => rfl); (case c => kernel_rfl); k_whole)))
local macro_rules | `(tactic| walk_at "eval Name") => `(tactic| (k_here; k_dflt (refine' name_T ?F ?v ?_ ?a ?b ?c; (case F => k_asm); (case v => (first | with_reducible exact look_here | with_reducible assumption | (simp only [ofString_eq, mapOf, String.reduceEq, ↓reduceIte] <;> first | rfl | with_reducible assumption))); (case b => kernel_rfl); (case a => rfl); (case c => kernel_rfl); k_whole)))
local macro_rules | `(tactic| walk_at "loadName") => `(tactic| (k_here; k_dflt (refine' loadn_T ?F ?v ?_ ?a ?b; (case F => k_asm); (case v => (first | with_reducible exact look_here | with_reducible assumption | (simp only [ofString_eq, mapOf, String.reduceEq, ↓reduceIte] <;> first | rfl | with_reducible assumption))); (case b => kernel_rfl); (case a => rfl); k_whole)))
local macro_rules | `(tactic| walk_at "exec If") => `(tactic| with_reducible refine wpAny_If ?_)
local macro_rules | `(tactic| walk_at "exec For Name Name cons nil") => `(tactic| (refine Stop.intro ?_))
local macro_rules | `(tactic| walk_at "exec For Name Call cons nil") => `(tactic| (refine Stop.intro ?_))
local macro_rules | `(tactic| walk_at "exec While Compare cons nil") => `(tactic| (refine Stop.intro ?_))
local macro_rules | `(tactic| walk_at "exec While BoolOp cons nil") => `(tactic| (refine Stop.intro ?_))
local macro_rules | `(tactic| walk_at "call builtin:isinstance") => `(tactic| (k_here; (with_reducible show wpAny _ _ (call (Value.builtin "isinstance") [Value.ref _, Value.type "tuple"]) _ _ _); k_dflt (refine' isi_T ?B ?F ?X ?N ?_; (case F => k_asm); (case X => k_asm); (case N => k_asm); (case B => (repeat (first | assumption | with_reducible exact Bears.here | exact finfB _ _ | exact fninfB _ _ | exact fzeroB _ _ | with_reducible refine Bears.cons ?_ | with_reducible refine Bears.app ?_))); k_whole)))
local macro_rules | `(tactic| walk_at "call builtin:len") => `(tactic| (k_here; (with_reducible show wpAny _ _ (call (Value.builtin "len") [Value.ref _]) _ _ _); k_dflt (refine' len_T ?B ?F ?X ?N ?_; (case F => k_asm); (case X => k_asm); (case N => k_asm); (case B => (repeat (first | assumption | with_reducible exact Bears.here | exact finfB _ _ | exact fninfB _ _ | exact fzeroB _ _ | with_reducible refine Bears.cons ?_ | with_reducible refine Bears.app ?_))); k_whole); intro _ _))
local macro_rules | `(tactic| walk_at "call builtin:divmod") => `(tactic| (k_here; k_dflt (refine' divmod_T ?F ?N ?b ?p ?_; (case F => k_asm); (case N => k_asm); (case b => first | with_reducible assumption | omega); (case p => with_reducible assumption); k_whole); intro h' r' t1' t2' tk' F' N'; (try k_sweep)))
local macro_rules | `(tactic| walk_at "inplaceOp FloorDiv int int") => `(tactic| ((with_reducible refine ifdiv_T ?_ ?_ ?_); decide; decide +kernel; intro _ _))
local macro_rules | `(tactic| walk_at "binaryOp Mod int int") => `(tactic| ((with_reducible refine mod_T ?_ ?_); omega; intro _ _))
local macro_rules | `(tactic| walk_at "call ref") => `(tactic| (k_here; (with_reducible show wpAny _ _ (call (Value.ref 21) _) _ _ _); k_dflt (refine' MGives.useP (g_trailing _ _) ?B ?F ?X ?N ?T ?hk ?hd ?hu ?_; (case B => k_asm); (case F => k_asm); (case X => k_asm); (case N => k_asm); (case T => k_asm); (case hk => rfl); (case hd => ((try dsimp only [Around.deeper, Around.in1, ktrTop]); omega)); (case hu => ((try dsimp only [Around.deeper, Around.in1, ktrTop]); omega)); k_whole); intro r' h' tk' F' N' ho'; refine Exists.elim ho' ?_; clear ho'; intro t' e'; subst e'; (try dsimp only); (try k_sweep)))
theorem zeroT (w : World) (news : List (Addr × Obj)) : Tn w news (.ref 22) ⟨0, 0, 0, 0⟩ := ⟨22, 213, 187, 214, 215, 0, rfl, .inr rfl⟩
set_option maxHeartbeats 4000000 in
theorem g_normU {w : World} {news : List (Addr × Obj)} (sg man ex bc pr : Int) (t1 t2 t3 t4 t5 t6 : Tok) (hm : 0 ≤ man) (hb : bc < 1000000) (hp : 0 < pr) :
    MGives w 2 37 [.int sg t1, .int man t2, .int ex t3, .int bc t4, .int pr t5, .str (Str.ofString "n") t6] news (fun n r => Tn w n r (pyNorm sg man ex bc pr)) := by
  refine MGives.intro ?_
  k_fill
  intro _ _
  unfold MGives
  intro p loose mean mg mb dp un gd cn cs a ccd cl outer A₀ base h₀ L m s Q E B F X N T hk hd hu hret
  refine wpAny_call ?_
  k_dflt (refine' code_def ?k1 ?k2 ?k3 ?k4 ?k5 ?kA ?kF ?kK ?k6 ?k7 ?k8 ?k9 ?kB ?_ ?c2 ?c3 ?c4 ?c5; (case kA => exact rfl); (case kF => exact rfl); (case kK => assumption); (case k1 => k_asm); (case k2 => k_asm); (case k3 => k_asm); (case k4 => k_asm); (case k5 => k_asm); (case k6 => k_is); (case k7 => k_is); (case k8 => ((try dsimp only [Around.deeper, Around.in1, ktrTop]); omega)); (case k9 => first | exact BindsTo.of_eq rfl | exact binds_K (by k_in) rfl (by k_is) rfl rfl rfl); (case c5 => decide); (case kB => exact locs rfl); (case c2 => exact rfl); (case c3 => exact rfl); (case c4 => exact rfl); k_whole; intro g₁ L₁ h₁ FG₁ F₁ N₁ B₁ X₁ T₁; (try dsimp only); (try k_fold))
  replace F₁ : Fr g₁ L₁ h₁ (mapOf [(Str.ofString "rnd", .str (Str.ofString "n") t6), (Str.ofString "prec", .int pr t5), (Str.ofString "bc", .int bc t4), (Str.ofString "exp", .int ex t3), (Str.ofString "man", .int man t2), (Str.ofString "sign", .int sg t1)]) := fr_lookup F₁
  k_steps
  all_goals first
    | (refine hret _ _ _ _ (by k_asm) (by k_asm) (fun _ h => List.mem_cons_of_mem _ h) (Tn.of_eq ?_)
       unfold pyNorm
       repeat (first | rfl | refine (if_pos (by assumption)).trans ?_ | refine (if_neg (by assumption)).trans ?_ | unfold pnUp | unfold pnDown | unfold pnTail | unfold pnOne))
    | (refine hret _ _ _ _ (by k_asm) (by k_asm) (fun _ h => h) ?_
       unfold pyNorm
       rw [if_pos (by assumption)]
       exact zeroT _ _)
  all_goals trace_state
end Mine

-- C3
set_option maxRecDepth 100000
namespace Mine
open PySem PySem.W PyProof.Rows PySem.Spec PySem.Calls
-- the walk's own lines: each step's token and heap named anew
local macro_rules | `(tactic| walk_at "binaryOp Add int int") => `(tactic| (with_reducible refine add_T ?_; intro _ _))
local macro_rules | `(tactic| walk_at "binaryOp Sub int int") => `(tactic| (with_reducible refine sub_T ?_; intro _ _))
local macro_rules | `(tactic| walk_at "binaryOp BitAnd int int") => `(tactic| (with_reducible refine and_T ?_; intro _ _))
local macro_rules | `(tactic| walk_at "binaryOp BitXor int int") => `(tactic| (with_reducible refine xor_T ?_; intro _ _))
local macro_rules | `(tactic| walk_at "inplaceOp Add int int") => `(tactic| (with_reducible refine iadd_T ?_; intro _ _))
local macro_rules | `(tactic| walk_at "inplaceOp Sub int int") => `(tactic| (with_reducible refine isub_T ?_; intro _ _))
local macro_rules | `(tactic| walk_at "inplaceOp BitXor int int") => `(tactic| (with_reducible refine ixor_T ?_; intro _ _))
local macro_rules | `(tactic| walk_at "binaryOp RShift int int") => `(tactic| ((with_reducible refine rsh_T ?_ ?_); omega; intro _ _))
local macro_rules | `(tactic| walk_at "inplaceOp RShift int int") => `(tactic| ((with_reducible refine irsh_T ?_ ?_); omega; intro _ _))
local macro_rules | `(tactic| walk_at "binaryOp LShift int int") => `(tactic| ((with_reducible refine lsh_T ?_ ?_ ?_); omega; (try simp only [bits_one]); omega; intro _ _))
local macro_rules | `(tactic| walk_at "inplaceOp LShift int int") => `(tactic| ((with_reducible refine ilsh_T ?_ ?_ ?_); omega; (try simp only [bits_one]); omega; intro _ _))
local macro_rules | `(tactic| walk_at "unaryOp USub int") => `(tactic| (with_reducible refine neg_T ?_; intro _ _))
local macro_rules | `(tactic| walk_at "call builtin:int.bit_length") => `(tactic| (with_reducible refine bits_T ?_; intro _ _))
local macro_rules | `(tactic| walk_at "eval Constant int") => `(tactic| (with_reducible refine const_T ?_; intro _ _))
local macro_rules | `(tactic| walk_at "storeName") => `(tactic| (k_here; k_dflt (refine' store_T ?F ?N ?_ ?a ?b; (case F => k_asm); (case N => k_asm); (case a => rfl); (case b => rfl); k_whole); intro h' tk' F' N'; (try k_sweep)))
local macro_rules | `(tactic| walk_at "newTuple") => `(tactic| (k_here; k_dflt (refine' tuple_T ?F ?N ?s ?_; (case F => k_asm); (case N => k_asm); (case s => decide); k_whole); intro h' r' F' N'; (try k_sweep)))
local macro_rules | `(tactic| walk_at "assign Tuple") => `(tactic| (k_here; (with_reducible show wpAny _ _ (assign (Expr.Tuple _ _ _) _ (Value.ref _)) _ _ _); k_dflt (refine' unpack_T ?B ?F ?X ?N ?a ?b ?c ?_; (case F => k_asm); (case X => k_asm); (case N => k_asm); (case B => (repeat (first | assumption | with_reducible exact Bears.here | exact finfB _ _ | exact fninfB _ _ | exact fzeroB _ _ | with_reducible refine Bears.cons ?_ | with_reducible refine Bears.app ?_))); (case a => rfl); (case b => rfl); (case c => rfl); k_whole); intro h' F' N'; (try k_sweep)))
local macro_rules | `(tactic| walk_at "ite") => `(tactic| with_reducible first
  | (refine dec_split ?_ ?_ <;> intro _) | (refine bne_split ?_ ?_ <;> intro _) | (refine beq_split ?_ ?_ <;> intro _))
local macro_rules | `(tactic| walk_at "compareOp Eq ref ref") => `(tactic| (k_here; k_dflt (first
  | (refine' eq_T ?B ?C ?F ?X ?N ?u ?_; (case F => k_asm); (case X => k_asm); (case N => k_asm); (case B => (repeat (first | assumption | with_reducible exact Bears.here | exact finfB _ _ | exact fninfB _ _ | exact fzeroB _ _ | with_reducible refine Bears.cons ?_ | with_reducible refine Bears.app ?_))); (case C => (repeat (first | assumption | with_reducible exact Bears.here | exact finfB _ _ | exact fninfB _ _ | exact fzeroB _ _ | with_reducible refine Bears.cons ?_ | with_reducible refine Bears.app ?_))); (case u => ((try dsimp only [Around.deeper, Around.in1, ktrTop]); omega)); k_whole)
  | (refine' eqL_T ?B ?C ?F ?X ?N ?u ?_; (case F => k_asm); (case X => k_asm); (case N => k_asm); (case B => (repeat (first | assumption | with_reducible exact Bears.here | exact finfB _ _ | exact fninfB _ _ | exact fzeroB _ _ | with_reducible refine Bears.cons ?_ | with_reducible refine Bears.app ?_))); (case C => (repeat (first | assumption | with_reducible exact Bears.here | exact finfB _ _ | exact fninfB _ _ | exact fzeroB _ _ | with_reducible refine Bears.cons ?_ | with_reducible refine Bears.app ?_))); (case u => ((try dsimp only [Around.deeper, Around.in1, ktrTop]); omega)); k_whole))))
local macro_rules | `(tactic| walk_at "compareOp NotEq ref ref") => `(tactic| (k_here; k_dflt (refine' ne_T ?B ?C ?F ?X ?N ?u ?_; (case F => k_asm); (case X => k_asm); (case N => k_asm); (case B => (repeat (first | assumption | with_reducible exact Bears.here | exact finfB _ _ | exact fninfB _ _ | exact fzeroB _ _ | with_reducible refine Bears.cons ?_ | with_reducible refine Bears.app ?_))); (case C => (repeat (first | assumption | with_reducible exact Bears.here | exact finfB _ _ | exact fninfB _ _ | exact fzeroB _ _ | with_reducible refine Bears.cons ?_ | with_reducible refine Bears.app ?_))); (case u => ((try dsimp only [Around.deeper, Around.in1, ktrTop]); omega)); k_whole)))
local macro_rules | `(tactic| walk_at "subscriptTail") => `(tactic| (k_here; (with_reducible show wpAny _ _ (subscriptTail _ _ (Value.ref _) (Value.int _ _)) _ _ _); k_dflt (refine' item_T ?B ?F ?X ?N ?i ?x ?_ ?s; (case F => k_asm); (case X => k_asm); (case N => k_asm); (case B => (repeat (first | assumption | with_reducible exact Bears.here | exact finfB _ _ | exact fninfB _ _ | exact fzeroB _ _ | with_reducible refine Bears.cons ?_ | with_reducible refine Bears.app ?_))); (case i => omega); (case x => rfl); (case s => with_unfolding_all rfl); k_whole)))
local macro_rules | `(tactic| walk_at "binaryOp Pow int int") => `(tactic| ((with_reducible refine pow_T ?_ ?_ ?_ ?_); omega; omega; omega; intro _ _))
local macro_rules | `(tactic| walk_at "ite") => `(tactic| with_reducible first
  | (refine eqb_tt (by assumption) ?_) | (refine eqb_ff (by assumption) ?_) | (refine eqb_ff_e (by (dsimp only; omega)) ?_))
local macro_rules | `(tactic| walk_at "ite") => `(tactic| with_reducible first
  | (refine dec_tt (by omega) ?_) | (refine dec_ff (by omega) ?_) | (refine bne_tt (by omega) ?_) | (refine bne_ff (by omega) ?_) | (refine beq_tt (by omega) ?_) | (refine beq_ff (by omega) ?_) | (refine not_ite ?_))
local macro_rules | `(tactic| walk_at "eval Name") => `(tactic| (k_here; k_dflt (refine' name_G ?F ?X ?T ?e ?_ ?a ?b ?c; (case F => k_asm); (case X => k_asm); (case T => k_asm); (case e => k_is); (case b => kernel_rfl);  (case a => rfl); (case c => kernel_rfl); k_whole)))
local macro_rules | `(tactic| walk_at "eval Name") => `(tactic| (k_here; k_dflt (refine' name_T ?F ?v ?_ ?a ?b ?c; (case F => k_asm); (case v => (first | with_reducible exact look_here | with_reducible assumption | (simp only [ofString_eq, mapOf, String.reduceEq, ↓reduceIte] <;> first | rfl | with_reducible assumption))); (case b => kernel_rfl); (case a => rfl); (case c => kernel_rfl); k_whole)))
local macro_rules | `(tactic| walk_at "loadName") => `(tactic| (k_here; k_dflt (refine' loadn_T ?F ?v ?_ ?a ?b; (case F => k_asm); (case v => (first | with_reducible exact look_here | with_reducible assumption | (simp only [ofString_eq, mapOf, String.reduceEq, ↓reduceIte] <;> first | rfl | with_reducible assumption))); (case b => kernel_rfl); (case a => rfl); k_whole)))
local macro_rules | `(tactic| walk_at "exec If") => `(tactic| with_reducible refine wpAny_If ?_)
local macro_rules | `(tactic| walk_at "exec For Name Name cons nil") => `(tactic| (refine Stop.intro ?_))
local macro_rules | `(tactic| walk_at "exec For Name Call cons nil") => `(tactic| (refine Stop.intro ?_))
local macro_rules | `(tactic| walk_at "exec While Compare cons nil") => `(tactic| (refine Stop.intro ?_))
local macro_rules | `(tactic| walk_at "exec While BoolOp cons nil") => `(tactic| (refine Stop.intro ?_))
local macro_rules | `(tactic| walk_at "call builtin:isinstance") => `(tactic| (k_here; (with_reducible show wpAny _ _ (call (Value.builtin "isinstance") [Value.ref _, Value.type "tuple"]) _ _ _); k_dflt (refine' isi_T ?B ?F ?X ?N ?_; (case F => k_asm); (case X => k_asm); (case N => k_asm); (case B => (repeat (first | assumption | with_reducible exact Bears.here | exact finfB _ _ | exact fninfB _ _ | exact fzeroB _ _ | with_reducible refine Bears.cons ?_ | with_reducible refine Bears.app ?_))); k_whole)))
local macro_rules | `(tactic| walk_at "call builtin:len") => `(tactic| (k_here; (with_reducible show wpAny _ _ (call (Value.builtin "len") [Value.ref _]) _ _ _); k_dflt (refine' len_T ?B ?F ?X ?N ?_; (case F => k_asm); (case X => k_asm); (case N => k_asm); (case B => (repeat (first | assumption | with_reducible exact Bears.here | exact finfB _ _ | exact fninfB _ _ | exact fzeroB _ _ | with_reducible refine Bears.cons ?_ | with_reducible refine Bears.app ?_))); k_whole); intro _ _))
local macro_rules | `(tactic| walk_at "call builtin:divmod") => `(tactic| (k_here; k_dflt (refine' divmod_T ?F ?N ?b ?p ?_; (case F => k_asm); (case N => k_asm); (case b => first | with_reducible assumption | omega); (case p => with_reducible assumption); k_whole); intro h' r' t1' t2' tk' F' N'; (try k_sweep)))
local macro_rules | `(tactic| walk_at "inplaceOp FloorDiv int int") => `(tactic| ((with_reducible refine ifdiv_T ?_ ?_ ?_); decide; decide +kernel; intro _ _))
local macro_rules | `(tactic| walk_at "binaryOp Mod int int") => `(tactic| ((with_reducible refine mod_T ?_ ?_); omega; intro _ _))
local macro_rules | `(tactic| walk_at "call ref") => `(tactic| (k_here; (with_reducible show wpAny _ _ (call (Value.ref 21) _) _ _ _); k_dflt (refine' MGives.useP (g_trailing _ _) ?B ?F ?X ?N ?T ?hk ?hd ?hu ?_; (case B => k_asm); (case F => k_asm); (case X => k_asm); (case N => k_asm); (case T => k_asm); (case hk => rfl); (case hd => ((try dsimp only [Around.deeper, Around.in1, ktrTop]); omega)); (case hu => ((try dsimp only [Around.deeper, Around.in1, ktrTop]); omega)); k_whole); intro r' h' tk' F' N' ho'; refine Exists.elim ho' ?_; clear ho'; intro t' e'; subst e'; (try dsimp only); (try k_sweep)))
local macro_rules | `(tactic| walk_at "call ref") => `(tactic| (k_here; (with_reducible show wpAny _ _ (call (Value.ref 37) _) _ _ _); k_dflt (refine' MGives.use (g_normU _ _ _ _ _ _ _ _ _ _ _ ?pa ?pb ?pc) ?B ?F ?X ?N ?T ?hk ?hd ?hu ?_ ?mo; (case B => k_asm); (case F => k_asm); (case X => k_asm); (case N => k_asm); (case T => k_asm); (case hk => rfl); (case hd => ((try dsimp only [Around.deeper, Around.in1, ktrTop]); omega)); (case hu => ((try dsimp only [Around.deeper, Around.in1, ktrTop]); omega)); (case mo => exact fun _ _ _ hs ht => Tn.mono ht hs); (case pa => first | with_reducible assumption | omega | (simp only [bits_one]; omega)); (case pb => first | with_reducible assumption | omega | (simp only [bits_one]; omega)); (case pc => first | with_reducible assumption | omega | (simp only [bits_one]; omega)); k_whole); intro r' tl' h' tk' F' N' ho'; (obtain ⟨a', k1', k2', k3', k4', n', e', hB'⟩ := ho'); subst e'; (try dsimp only); (try k_sweep)))

set_option maxHeartbeats 4000000 in
theorem g_norm {w : World} {news : List (Addr × Obj)} (sg man ex bc pr : Int) (t1 t2 t3 t4 t5 t6 : Tok) (hm : 0 ≤ man) (hb : bc = (Builtin.Int.intBits man : Nat)) (hB : bc < 1000000) (hp : 0 < pr) :
    MGives w 3 44 [.int sg t1, .int man t2, .int ex t3, .int bc t4, .int pr t5, .str (Str.ofString "n") t6] news (fun n r => Tn w n r (nfI sg man ex pr)) := by
  refine MGives.intro ?_
  k_fill
  intro _ _
  unfold MGives
  intro p loose mean mg mb dp un gd cn cs a ccd cl outer A₀ base h₀ L m s Q E B F X N T hk hd hu hret
  refine wpAny_call ?_
  k_dflt (refine' code_def ?k1 ?k2 ?k3 ?k4 ?k5 ?kA ?kF ?kK ?k6 ?k7 ?k8 ?k9 ?kB ?_ ?c2 ?c3 ?c4 ?c5; (case kA => exact rfl); (case kF => exact rfl); (case kK => assumption); (case k1 => k_asm); (case k2 => k_asm); (case k3 => k_asm); (case k4 => k_asm); (case k5 => k_asm); (case k6 => k_is); (case k7 => k_is); (case k8 => ((try dsimp only [Around.deeper, Around.in1, ktrTop]); omega)); (case k9 => first | exact BindsTo.of_eq rfl | exact binds_K (by k_in) rfl (by k_is) rfl rfl rfl); (case c5 => decide); (case kB => exact locs rfl); (case c2 => exact rfl); (case c3 => exact rfl); (case c4 => exact rfl); k_whole; intro g₁ L₁ h₁ FG₁ F₁ N₁ B₁ X₁ T₁; (try dsimp only); (try k_fold))
  replace F₁ : Fr g₁ L₁ h₁ (mapOf [(Str.ofString "rnd", .str (Str.ofString "n") t6), (Str.ofString "prec", .int pr t5), (Str.ofString "bc", .int bc t4), (Str.ofString "exp", .int ex t3), (Str.ofString "man", .int man t2), (Str.ofString "sign", .int sg t1)]) := fr_lookup F₁
  k_steps
  all_goals (refine hret _ _ _ _ (by k_asm) (by k_asm) sub_app (Tn.of_bears (by assumption) ?_))
  rw [pyNorm_eq hm hb hp]
end Mine

-- C4
set_option maxRecDepth 100000
namespace Mine
open PySem PySem.W PyProof.Rows PySem.Spec PySem.Calls
local macro_rules | `(tactic| walk_at "never 0") => `(tactic| fail "never")
-- the walk's own lines: each step's token and heap named anew
local macro_rules | `(tactic| walk_at "binaryOp Add int int") => `(tactic| (with_reducible refine add_T ?_; intro _ _))
local macro_rules | `(tactic| walk_at "binaryOp Sub int int") => `(tactic| (with_reducible refine sub_T ?_; intro _ _))
local macro_rules | `(tactic| walk_at "binaryOp BitAnd int int") => `(tactic| (with_reducible refine and_T ?_; intro _ _))
local macro_rules | `(tactic| walk_at "binaryOp BitXor int int") => `(tactic| (with_reducible refine xor_T ?_; intro _ _))
local macro_rules | `(tactic| walk_at "inplaceOp Add int int") => `(tactic| (with_reducible refine iadd_T ?_; intro _ _))
local macro_rules | `(tactic| walk_at "inplaceOp Sub int int") => `(tactic| (with_reducible refine isub_T ?_; intro _ _))
local macro_rules | `(tactic| walk_at "inplaceOp BitXor int int") => `(tactic| (with_reducible refine ixor_T ?_; intro _ _))
local macro_rules | `(tactic| walk_at "binaryOp RShift int int") => `(tactic| ((with_reducible refine rsh_T ?_ ?_); omega; intro _ _))
local macro_rules | `(tactic| walk_at "inplaceOp RShift int int") => `(tactic| ((with_reducible refine irsh_T ?_ ?_); omega; intro _ _))
local macro_rules | `(tactic| walk_at "binaryOp LShift int int") => `(tactic| ((with_reducible refine lsh_T ?_ ?_ ?_); omega; (try simp only [bits_one]); omega; intro _ _))
local macro_rules | `(tactic| walk_at "inplaceOp LShift int int") => `(tactic| ((with_reducible refine ilsh_T ?_ ?_ ?_); omega; (try simp only [bits_one]); omega; intro _ _))
local macro_rules | `(tactic| walk_at "unaryOp USub int") => `(tactic| (with_reducible refine neg_T ?_; intro _ _))
local macro_rules | `(tactic| walk_at "call builtin:int.bit_length") => `(tactic| (with_reducible refine bits_T ?_; intro _ _))
local macro_rules | `(tactic| walk_at "eval Constant int") => `(tactic| (with_reducible refine const_T ?_; intro _ _))
local macro_rules | `(tactic| walk_at "storeName") => `(tactic| (k_here; k_dflt (refine' store_T ?F ?N ?_ ?a ?b; (case F => k_asm); (case N => k_asm); (case a => rfl); (case b => rfl); k_whole); intro h' tk' F' N'; (try k_sweep)))
local macro_rules | `(tactic| walk_at "newTuple") => `(tactic| (k_here; k_dflt (refine' tuple_T ?F ?N ?s ?_; (case F => k_asm); (case N => k_asm); (case s => decide); k_whole); intro h' r' F' N'; (try k_sweep)))
local macro_rules | `(tactic| walk_at "assign Tuple") => `(tactic| (k_here; (with_reducible show wpAny _ _ (assign (Expr.Tuple _ _ _) _ (Value.ref _)) _ _ _); k_dflt (refine' unpack_T ?B ?F ?X ?N ?a ?b ?c ?_; (case F => k_asm); (case X => k_asm); (case N => k_asm); (case B => (repeat (first | assumption | with_reducible exact Bears.here | exact finfB _ _ | exact fninfB _ _ | exact fzeroB _ _ | with_reducible refine Bears.cons ?_ | with_reducible refine Bears.app ?_))); (case a => rfl); (case b => rfl); (case c => rfl); k_whole); intro h' F' N'; (try k_sweep)))
local macro_rules | `(tactic| walk_at "ite") => `(tactic| with_reducible first
  | (refine dec_split ?_ ?_ <;> intro _) | (refine bne_split ?_ ?_ <;> intro _) | (refine beq_split ?_ ?_ <;> intro _))
local macro_rules | `(tactic| walk_at "compareOp Eq ref ref") => `(tactic| (k_here; k_dflt (first
  | (refine' eq_T ?B ?C ?F ?X ?N ?u ?_; (case F => k_asm); (case X => k_asm); (case N => k_asm); (case B => (repeat (first | assumption | with_reducible exact Bears.here | exact finfB _ _ | exact fninfB _ _ | exact fzeroB _ _ | with_reducible refine Bears.cons ?_ | with_reducible refine Bears.app ?_))); (case C => (repeat (first | assumption | with_reducible exact Bears.here | exact finfB _ _ | exact fninfB _ _ | exact fzeroB _ _ | with_reducible refine Bears.cons ?_ | with_reducible refine Bears.app ?_))); (case u => ((try dsimp only [Around.deeper, Around.in1, ktrTop]); omega)); k_whole)
  | (refine' eqL_T ?B ?C ?F ?X ?N ?u ?_; (case F => k_asm); (case X => k_asm); (case N => k_asm); (case B => (repeat (first | assumption | with_reducible exact Bears.here | exact finfB _ _ | exact fninfB _ _ | exact fzeroB _ _ | with_reducible refine Bears.cons ?_ | with_reducible refine Bears.app ?_))); (case C => (repeat (first | assumption | with_reducible exact Bears.here | exact finfB _ _ | exact fninfB _ _ | exact fzeroB _ _ | with_reducible refine Bears.cons ?_ | with_reducible refine Bears.app ?_))); (case u => ((try dsimp only [Around.deeper, Around.in1, ktrTop]); omega)); k_whole))))
local macro_rules | `(tactic| walk_at "compareOp NotEq ref ref") => `(tactic| (k_here; k_dflt (refine' ne_T ?B ?C ?F ?X ?N ?u ?_; (case F => k_asm); (case X => k_asm); (case N => k_asm); (case B => (repeat (first | assumption | with_reducible exact Bears.here | exact finfB _ _ | exact fninfB _ _ | exact fzeroB _ _ | with_reducible refine Bears.cons ?_ | with_reducible refine Bears.app ?_))); (case C => (repeat (first | assumption | with_reducible exact Bears.here | exact finfB _ _ | exact fninfB _ _ | exact fzeroB _ _ | with_reducible refine Bears.cons ?_ | with_reducible refine Bears.app ?_))); (case u => ((try dsimp only [Around.deeper, Around.in1, ktrTop]); omega)); k_whole)))
local macro_rules | `(tactic| walk_at "subscriptTail") => `(tactic| (k_here; (with_reducible show wpAny _ _ (subscriptTail _ _ (Value.ref _) (Value.int _ _)) _ _ _); k_dflt (refine' item_T ?B ?F ?X ?N ?i ?x ?_ ?s; (case F => k_asm); (case X => k_asm); (case N => k_asm); (case B => (repeat (first | assumption | with_reducible exact Bears.here | exact finfB _ _ | exact fninfB _ _ | exact fzeroB _ _ | with_reducible refine Bears.cons ?_ | with_reducible refine Bears.app ?_))); (case i => omega); (case x => rfl); (case s => with_unfolding_all rfl); k_whole)))
local macro_rules | `(tactic| walk_at "binaryOp Pow int int") => `(tactic| ((with_reducible refine pow_T ?_ ?_ ?_ ?_); omega; omega; omega; intro _ _))
local macro_rules | `(tactic| walk_at "ite") => `(tactic| with_reducible first
  | (refine eqb_tt (by assumption) ?_) | (refine eqb_ff (by assumption) ?_) | (refine eqb_ff_e (by (dsimp only; omega)) ?_))
local macro_rules | `(tactic| walk_at "ite") => `(tactic| with_reducible first
  | (refine dec_tt (by omega) ?_) | (refine dec_ff (by omega) ?_) | (refine bne_tt (by omega) ?_) | (refine bne_ff (by omega) ?_) | (refine beq_tt (by omega) ?_) | (refine beq_ff (by omega) ?_) | (refine not_ite ?_))
local macro_rules | `(tactic| walk_at "eval Name") => `(tactic| (k_here; k_dflt (refine' name_G ?F ?X ?T ?e ?_ ?a ?b ?c; (case F => k_asm); (case X => k_asm); (case T => k_asm); (case e => k_is); (case b => kernel_rfl);  (case a => rfl); (case c => kernel_rfl); k_whole)))
local macro_rules | `(tactic| walk_at "eval Name") => `(tactic| (k_here; k_dflt (refine' name_T ?F ?v ?_ ?a ?b ?c; (case F => k_asm); (case v => (first | with_reducible exact look_here | with_reducible assumption | (simp only [ofString_eq, mapOf, String.reduceEq, ↓reduceIte] <;> first | rfl | with_reducible assumption))); (case b => kernel_rfl); (case a => rfl); (case c => kernel_rfl); k_whole)))
local macro_rules | `(tactic| walk_at "loadName") => `(tactic| (k_here; k_dflt (refine' loadn_T ?F ?v ?_ ?a ?b; (case F => k_asm); (case v => (first | with_reducible exact look_here | with_reducible assumption | (simp only [ofString_eq, mapOf, String.reduceEq, ↓reduceIte] <;> first | rfl | with_reducible assumption))); (case b => kernel_rfl); (case a => rfl); k_whole)))
local macro_rules | `(tactic| walk_at "exec If") => `(tactic| with_reducible refine wpAny_If ?_)
local macro_rules | `(tactic| walk_at "exec For Name Name cons nil") => `(tactic| (refine Stop.intro ?_))
local macro_rules | `(tactic| walk_at "exec For Name Call cons nil") => `(tactic| (refine Stop.intro ?_))
local macro_rules | `(tactic| walk_at "exec While Compare cons nil") => `(tactic| (refine Stop.intro ?_))
local macro_rules | `(tactic| walk_at "exec While BoolOp cons nil") => `(tactic| (refine Stop.intro ?_))
local macro_rules | `(tactic| walk_at "call builtin:isinstance") => `(tactic| (k_here; (with_reducible show wpAny _ _ (call (Value.builtin "isinstance") [Value.ref _, Value.type "tuple"]) _ _ _); k_dflt (refine' isi_T ?B ?F ?X ?N ?_; (case F => k_asm); (case X => k_asm); (case N => k_asm); (case B => (repeat (first | assumption | with_reducible exact Bears.here | exact finfB _ _ | exact fninfB _ _ | exact fzeroB _ _ | with_reducible refine Bears.cons ?_ | with_reducible refine Bears.app ?_))); k_whole)))
local macro_rules | `(tactic| walk_at "call builtin:len") => `(tactic| (k_here; (with_reducible show wpAny _ _ (call (Value.builtin "len") [Value.ref _]) _ _ _); k_dflt (refine' len_T ?B ?F ?X ?N ?_; (case F => k_asm); (case X => k_asm); (case N => k_asm); (case B => (repeat (first | assumption | with_reducible exact Bears.here | exact finfB _ _ | exact fninfB _ _ | exact fzeroB _ _ | with_reducible refine Bears.cons ?_ | with_reducible refine Bears.app ?_))); k_whole); intro _ _))
local macro_rules | `(tactic| walk_at "call builtin:divmod") => `(tactic| (k_here; k_dflt (refine' divmod_T ?F ?N ?b ?p ?_; (case F => k_asm); (case N => k_asm); (case b => first | with_reducible assumption | omega); (case p => with_reducible assumption); k_whole); intro h' r' t1' t2' tk' F' N'; (try k_sweep)))
local macro_rules | `(tactic| walk_at "inplaceOp FloorDiv int int") => `(tactic| ((with_reducible refine ifdiv_T ?_ ?_ ?_); decide; decide +kernel; intro _ _))
local macro_rules | `(tactic| walk_at "binaryOp Mod int int") => `(tactic| ((with_reducible refine mod_T ?_ ?_); omega; intro _ _))
local macro_rules | `(tactic| walk_at "call ref") => `(tactic| (k_here; (with_reducible show wpAny _ _ (call (Value.ref 21) _) _ _ _); k_dflt (refine' MGives.useP (g_trailing _ _) ?B ?F ?X ?N ?T ?hk ?hd ?hu ?_; (case B => k_asm); (case F => k_asm); (case X => k_asm); (case N => k_asm); (case T => k_asm); (case hk => rfl); (case hd => ((try dsimp only [Around.deeper, Around.in1, ktrTop]); omega)); (case hu => ((try dsimp only [Around.deeper, Around.in1, ktrTop]); omega)); k_whole); intro r' h' tk' F' N' ho'; refine Exists.elim ho' ?_; clear ho'; intro t' e'; subst e'; (try dsimp only); (try k_sweep)))
local macro_rules | `(tactic| walk_at "call ref") => `(tactic| (k_here; (with_reducible show wpAny _ _ (call (Value.ref 44) _) _ _ _); k_dflt (refine' MGives.use (g_norm _ _ _ _ _ _ _ _ _ _ _ ?pa ?pb ?qc ?pd) ?B ?F ?X ?N ?T ?hk ?hd ?hu ?_ ?mo; (case B => k_asm); (case F => k_asm); (case X => k_asm); (case N => k_asm); (case T => k_asm); (case hk => rfl); (case hd => ((try dsimp only [Around.deeper, Around.in1, ktrTop]); omega)); (case hu => ((try dsimp only [Around.deeper, Around.in1, ktrTop]); omega)); (case mo => exact fun _ _ _ hs ht => Tn.mono ht hs); (case pa => first | with_reducible assumption | omega | (simp only [bits_one]; omega)); (case pb => first | with_reducible assumption | omega | (simp only [bits_one]; omega)); (case qc => first | with_reducible assumption | omega | (rename BitsBd _ => hz9; exact hz9 _ (by omega) (by omega))); (case pd => first | with_reducible assumption | omega | (simp only [bits_one]; omega)); k_whole); intro r' tl' h' tk' F' N' ho'; (obtain ⟨a', k1', k2', k3', k4', n', e', hB'⟩ := ho'); subst e'; (try dsimp only); (try k_sweep)))

def fmeU (sg man ex : Int) : T4 :=
  if man = 0 then ⟨0, 0, 0, 0⟩
  else if Builtin.bitAnd man 1 = 0 then
    if Builtin.bitAnd man 2 = 0 then ⟨sg, man.fdiv (2 ^ ((tz man.natAbs : Nat) : Int).toNat), ex + (tz man.natAbs : Nat), (Builtin.Int.intBits man : Nat) - (tz man.natAbs : Nat)⟩
    else ⟨sg, man.fdiv (2 ^ (1 : Int).toNat), ex + 1, (Builtin.Int.intBits man : Nat) - 1⟩
  else ⟨sg, man, ex, (Builtin.Int.intBits man : Nat)⟩
theorem fmeU_eq (sg ex : Int) {man : Int} (h : 0 ≤ man) : fmeU sg man ex = nf sg man.natAbs ex := by
  obtain ⟨n, rfl⟩ := Int.eq_ofNat_of_zero_le h
  unfold fmeU
  rw [and1, and2, intBits_bl, Int.natAbs_natCast]
  by_cases h0 : (n : Int) = 0
  · rw [if_pos h0]
    have : n = 0 := by omega
    subst this
    unfold nf; simp
  rw [if_neg h0]
  have hn : n ≠ 0 := by omega
  by_cases h1 : (n : Int) % 2 = 0
  · rw [if_pos h1, Int.toNat_natCast, fdiv_nat]
    have hb := bl_od hn
    by_cases h2 : (n : Int) / 2 % 2 * 2 = 0
    · rw [if_pos h2]
      unfold nf
      rw [if_neg hn]
      have e : ((bl n : Nat) : Int) - (tz n : Nat) = (bl (od n) : Nat) := by omega
      rw [e]
      rfl
    · rw [if_neg h2]
      have ht : tz n = 1 := by rw [tz_even hn (by omega), tz_odd (by omega)]
      unfold nf
      rw [if_neg hn]
      have e : ((bl n : Nat) : Int) - 1 = (bl (od n) : Nat) := by omega
      have e1 : (1 : Int).toNat = 1 := rfl
      have ho : od n = n / 2 ^ 1 := by unfold od; rw [ht]
      rw [e, e1, fdiv_nat, ← ho, ht]
      rfl
  · rw [if_neg h1, nf_odd sg ex (by omega)]
def fme (man ex : Int) : T4 := nf (if man < 0 then 1 else 0) man.natAbs ex
theorem fme_neg {man : Int} (ex : Int) (h : man < 0) : fme man ex = fmeU 1 (-man) ex := by
  rw [fmeU_eq 1 ex (by omega)]; unfold fme; rw [if_pos h, Int.natAbs_neg]
theorem fme_pos {man : Int} (ex : Int) (h : ¬ man < 0) : fme man ex = fmeU 0 man ex := by
  rw [fmeU_eq 0 ex (by omega)]; unfold fme; rw [if_neg h]

set_option maxHeartbeats 4000000 in
theorem g_fme {w : World} {news : List (Addr × Obj)} (man ex : Int) (t1 t2 : Tok) :
    MGives w 3 52 [.int man t1, .int ex t2] news (fun n r => Tn w n r (fme man ex)) := by
  refine MGives.intro ?_
  k_fill
  intro _ _
  unfold MGives
  intro p loose mean mg mb dp un gd cn cs a ccd cl outer A₀ base h₀ L m s Q E B F X N T hk hd hu hret
  refine wpAny_call ?_
  k_dflt (refine' code_def ?k1 ?k2 ?k3 ?k4 ?k5 ?kA ?kF ?kK ?k6 ?k7 ?k8 ?k9 ?kB ?_ ?c2 ?c3 ?c4 ?c5; (case kA => exact rfl); (case kF => exact rfl); (case kK => assumption); (case k1 => k_asm); (case k2 => k_asm); (case k3 => k_asm); (case k4 => k_asm); (case k5 => k_asm); (case k6 => k_is); (case k7 => k_is); (case k8 => ((try dsimp only [Around.deeper, Around.in1, ktrTop]); omega)); (case k9 => first | exact BindsTo.of_eq rfl | exact binds_K (by k_in) rfl (by k_is) rfl rfl rfl); (case c5 => decide); (case kB => exact locs rfl); (case c2 => exact rfl); (case c3 => exact rfl); (case c4 => exact rfl); k_whole; intro g₁ L₁ h₁ FG₁ F₁ N₁ B₁ X₁ T₁; (try dsimp only); (try k_fold))
  replace F₁ : Fr g₁ L₁ h₁ (mapOf [(Str.ofString "rnd", _), (Str.ofString "prec", _), (Str.ofString "exp", .int ex t2), (Str.ofString "man", .int man t1)]) := fr_lookup F₁
  k_steps
  all_goals first
    | (refine hret _ _ _ _ (by k_asm) (by k_asm) (fun _ h => List.mem_cons_of_mem _ h) (Tn.of_eq ?_)
       first | rw [fme_neg ex (by assumption)] | rw [fme_pos ex (by assumption)]
       unfold fmeU
       repeat (first | rfl | refine (if_pos (by first | assumption | omega)).trans ?_ | refine (if_neg (by first | assumption | omega)).trans ?_))
    | (refine hret _ _ _ _ (by k_asm) (by k_asm) (fun _ h => h) ?_
       first | rw [fme_neg ex (by assumption)] | rw [fme_pos ex (by assumption)]
       unfold fmeU
       rw [if_pos (by assumption)]
       exact zeroT _ _)
end Mine

-- C5
set_option maxRecDepth 100000
namespace Mine
open PySem PySem.W PyProof.Rows PySem.Spec PySem.Calls
local macro_rules | `(tactic| walk_at "never 0") => `(tactic| fail "never")
local macro_rules | `(tactic| walk_at "never 1") => `(tactic| fail "never")
-- the walk's own lines: each step's token and heap named anew
local macro_rules | `(tactic| walk_at "binaryOp Add int int") => `(tactic| (with_reducible refine add_T ?_; intro _ _))
local macro_rules | `(tactic| walk_at "binaryOp Sub int int") => `(tactic| (with_reducible refine sub_T ?_; intro _ _))
local macro_rules | `(tactic| walk_at "binaryOp BitAnd int int") => `(tactic| (with_reducible refine and_T ?_; intro _ _))
local macro_rules | `(tactic| walk_at "binaryOp BitXor int int") => `(tactic| (with_reducible refine xor_T ?_; intro _ _))
local macro_rules | `(tactic| walk_at "inplaceOp Add int int") => `(tactic| (with_reducible refine iadd_T ?_; intro _ _))
local macro_rules | `(tactic| walk_at "inplaceOp Sub int int") => `(tactic| (with_reducible refine isub_T ?_; intro _ _))
local macro_rules | `(tactic| walk_at "inplaceOp BitXor int int") => `(tactic| (with_reducible refine ixor_T ?_; intro _ _))
local macro_rules | `(tactic| walk_at "binaryOp RShift int int") => `(tactic| ((with_reducible refine rsh_T ?_ ?_); omega; intro _ _))
local macro_rules | `(tactic| walk_at "inplaceOp RShift int int") => `(tactic| ((with_reducible refine irsh_T ?_ ?_); omega; intro _ _))
local macro_rules | `(tactic| walk_at "binaryOp LShift int int") => `(tactic| ((with_reducible refine lsh_T ?_ ?_ ?_); omega; (try simp only [bits_one]); omega; intro _ _))
local macro_rules | `(tactic| walk_at "inplaceOp LShift int int") => `(tactic| ((with_reducible refine ilsh_T ?_ ?_ ?_); omega; (try simp only [bits_one]); omega; intro _ _))
local macro_rules | `(tactic| walk_at "unaryOp USub int") => `(tactic| (with_reducible refine neg_T ?_; intro _ _))
local macro_rules | `(tactic| walk_at "call builtin:int.bit_length") => `(tactic| (with_reducible refine bits_T ?_; intro _ _))
local macro_rules | `(tactic| walk_at "eval Constant int") => `(tactic| (with_reducible refine const_T ?_; intro _ _))
local macro_rules | `(tactic| walk_at "storeName") => `(tactic| (k_here; k_dflt (refine' store_T ?F ?N ?_ ?a ?b; (case F => k_asm); (case N => k_asm); (case a => rfl); (case b => rfl); k_whole); intro h' tk' F' N'; (try k_sweep)))
local macro_rules | `(tactic| walk_at "newTuple") => `(tactic| (k_here; k_dflt (refine' tuple_T ?F ?N ?s ?_; (case F => k_asm); (case N => k_asm); (case s => decide); k_whole); intro h' r' F' N'; (try k_sweep)))
local macro_rules | `(tactic| walk_at "assign Tuple") => `(tactic| (k_here; (with_reducible show wpAny _ _ (assign (Expr.Tuple _ _ _) _ (Value.ref _)) _ _ _); k_dflt (refine' unpack_T ?B ?F ?X ?N ?a ?b ?c ?_; (case F => k_asm); (case X => k_asm); (case N => k_asm); (case B => (repeat (first | assumption | with_reducible exact Bears.here | exact finfB _ _ | exact fninfB _ _ | exact fzeroB _ _ | with_reducible refine Bears.cons ?_ | with_reducible refine Bears.app ?_))); (case a => rfl); (case b => rfl); (case c => rfl); k_whole); intro h' F' N'; (try k_sweep)))
local macro_rules | `(tactic| walk_at "ite") => `(tactic| with_reducible first
  | (refine dec_split ?_ ?_ <;> intro _) | (refine bne_split ?_ ?_ <;> intro _) | (refine beq_split ?_ ?_ <;> intro _))
local macro_rules | `(tactic| walk_at "compareOp Eq ref ref") => `(tactic| (k_here; k_dflt (first
  | (refine' eq_T ?B ?C ?F ?X ?N ?u ?_; (case F => k_asm); (case X => k_asm); (case N => k_asm); (case B => (repeat (first | assumption | with_reducible exact Bears.here | exact finfB _ _ | exact fninfB _ _ | exact fzeroB _ _ | with_reducible refine Bears.cons ?_ | with_reducible refine Bears.app ?_))); (case C => (repeat (first | assumption | with_reducible exact Bears.here | exact finfB _ _ | exact fninfB _ _ | exact fzeroB _ _ | with_reducible refine Bears.cons ?_ | with_reducible refine Bears.app ?_))); (case u => ((try dsimp only [Around.deeper, Around.in1, ktrTop]); omega)); k_whole)
  | (refine' eqL_T ?B ?C ?F ?X ?N ?u ?_; (case F => k_asm); (case X => k_asm); (case N => k_asm); (case B => (repeat (first | assumption | with_reducible exact Bears.here | exact finfB _ _ | exact fninfB _ _ | exact fzeroB _ _ | with_reducible refine Bears.cons ?_ | with_reducible refine Bears.app ?_))); (case C => (repeat (first | assumption | with_reducible exact Bears.here | exact finfB _ _ | exact fninfB _ _ | exact fzeroB _ _ | with_reducible refine Bears.cons ?_ | with_reducible refine Bears.app ?_))); (case u => ((try dsimp only [Around.deeper, Around.in1, ktrTop]); omega)); k_whole))))
local macro_rules | `(tactic| walk_at "compareOp NotEq ref ref") => `(tactic| (k_here; k_dflt (refine' ne_T ?B ?C ?F ?X ?N ?u ?_; (case F => k_asm); (case X => k_asm); (case N => k_asm); (case B => (repeat (first | assumption | with_reducible exact Bears.here | exact finfB _ _ | exact fninfB _ _ | exact fzeroB _ _ | with_reducible refine Bears.cons ?_ | with_reducible refine Bears.app ?_))); (case C => (repeat (first | assumption | with_reducible exact Bears.here | exact finfB _ _ | exact fninfB _ _ | exact fzeroB _ _ | with_reducible refine Bears.cons ?_ | with_reducible refine Bears.app ?_))); (case u => ((try dsimp only [Around.deeper, Around.in1, ktrTop]); omega)); k_whole)))
local macro_rules | `(tactic| walk_at "subscriptTail") => `(tactic| (k_here; (with_reducible show wpAny _ _ (subscriptTail _ _ (Value.ref _) (Value.int _ _)) _ _ _); k_dflt (refine' item_T ?B ?F ?X ?N ?i ?x ?_ ?s; (case F => k_asm); (case X => k_asm); (case N => k_asm); (case B => (repeat (first | assumption | with_reducible exact Bears.here | exact finfB _ _ | exact fninfB _ _ | exact fzeroB _ _ | with_reducible refine Bears.cons ?_ | with_reducible refine Bears.app ?_))); (case i => omega); (case x => rfl); (case s => with_unfolding_all rfl); k_whole)))
local macro_rules | `(tactic| walk_at "binaryOp Pow int int") => `(tactic| ((with_reducible refine pow_T ?_ ?_ ?_ ?_); omega; omega; omega; intro _ _))
local macro_rules | `(tactic| walk_at "ite") => `(tactic| with_reducible first
  | (refine eqb_tt (by assumption) ?_) | (refine eqb_ff (by assumption) ?_) | (refine eqb_ff_e (by (dsimp only; omega)) ?_))
local macro_rules | `(tactic| walk_at "ite") => `(tactic| with_reducible first
  | (refine dec_tt (by omega) ?_) | (refine dec_ff (by omega) ?_) | (refine bne_tt (by omega) ?_) | (refine bne_ff (by omega) ?_) | (refine beq_tt (by omega) ?_) | (refine beq_ff (by omega) ?_) | (refine not_ite ?_))
local macro_rules | `(tactic| walk_at "eval Name") => `(tactic| (k_here; k_dflt (refine' name_G ?F ?X ?T ?e ?_ ?a ?b ?c; (case F => k_asm); (case X => k_asm); (case T => k_asm); (case e => k_is); (case b => kernel_rfl);  (case a => rfl); (case c => kernel_rfl); k_whole)))
local macro_rules | `(tactic| walk_at "eval Name") => `(tactic| (k_here; k_dflt (refine' name_T ?F ?v ?_ ?a ?b ?c; (case F => k_asm); (case v => (first | with_reducible exact look_here | with_reducible assumption | (simp only [ofString_eq, mapOf, String.reduceEq, ↓reduceIte] <;> first | rfl | with_reducible assumption))); (case b => kernel_rfl); (case a => rfl); (case c => kernel_rfl); k_whole)))
local macro_rules | `(tactic| walk_at "loadName") => `(tactic| (k_here; k_dflt (refine' loadn_T ?F ?v ?_ ?a ?b; (case F => k_asm); (case v => (first | with_reducible exact look_here | with_reducible assumption | (simp only [ofString_eq, mapOf, String.reduceEq, ↓reduceIte] <;> first | rfl | with_reducible assumption))); (case b => kernel_rfl); (case a => rfl); k_whole)))
local macro_rules | `(tactic| walk_at "exec If") => `(tactic| with_reducible refine wpAny_If ?_)
local macro_rules | `(tactic| walk_at "exec For Name Name cons nil") => `(tactic| (refine Stop.intro ?_))
local macro_rules | `(tactic| walk_at "exec For Name Call cons nil") => `(tactic| (refine Stop.intro ?_))
local macro_rules | `(tactic| walk_at "exec While Compare cons nil") => `(tactic| (refine Stop.intro ?_))
local macro_rules | `(tactic| walk_at "exec While BoolOp cons nil") => `(tactic| (refine Stop.intro ?_))
local macro_rules | `(tactic| walk_at "call builtin:isinstance") => `(tactic| (k_here; (with_reducible show wpAny _ _ (call (Value.builtin "isinstance") [Value.ref _, Value.type "tuple"]) _ _ _); k_dflt (refine' isi_T ?B ?F ?X ?N ?_; (case F => k_asm); (case X => k_asm); (case N => k_asm); (case B => (repeat (first | assumption | with_reducible exact Bears.here | exact finfB _ _ | exact fninfB _ _ | exact fzeroB _ _ | with_reducible refine Bears.cons ?_ | with_reducible refine Bears.app ?_))); k_whole)))
local macro_rules | `(tactic| walk_at "call builtin:len") => `(tactic| (k_here; (with_reducible show wpAny _ _ (call (Value.builtin "len") [Value.ref _]) _ _ _); k_dflt (refine' len_T ?B ?F ?X ?N ?_; (case F => k_asm); (case X => k_asm); (case N => k_asm); (case B => (repeat (first | assumption | with_reducible exact Bears.here | exact finfB _ _ | exact fninfB _ _ | exact fzeroB _ _ | with_reducible refine Bears.cons ?_ | with_reducible refine Bears.app ?_))); k_whole); intro _ _))
local macro_rules | `(tactic| walk_at "call builtin:divmod") => `(tactic| (k_here; k_dflt (refine' divmod_T ?F ?N ?b ?p ?_; (case F => k_asm); (case N => k_asm); (case b => first | with_reducible assumption | omega); (case p => with_reducible assumption); k_whole); intro h' r' t1' t2' tk' F' N'; (try k_sweep)))
local macro_rules | `(tactic| walk_at "inplaceOp FloorDiv int int") => `(tactic| ((with_reducible refine ifdiv_T ?_ ?_ ?_); decide; decide +kernel; intro _ _))
local macro_rules | `(tactic| walk_at "binaryOp Mod int int") => `(tactic| ((with_reducible refine mod_T ?_ ?_); omega; intro _ _))
local macro_rules | `(tactic| walk_at "call ref") => `(tactic| (k_here; (with_reducible show wpAny _ _ (call (Value.ref 21) _) _ _ _); k_dflt (refine' MGives.useP (g_trailing _ _) ?B ?F ?X ?N ?T ?hk ?hd ?hu ?_; (case B => k_asm); (case F => k_asm); (case X => k_asm); (case N => k_asm); (case T => k_asm); (case hk => rfl); (case hd => ((try dsimp only [Around.deeper, Around.in1, ktrTop]); omega)); (case hu => ((try dsimp only [Around.deeper, Around.in1, ktrTop]); omega)); k_whole); intro r' h' tk' F' N' ho'; refine Exists.elim ho' ?_; clear ho'; intro t' e'; subst e'; (try dsimp only); (try k_sweep)))
local macro_rules | `(tactic| walk_at "call ref") => `(tactic| (k_here; (with_reducible show wpAny _ _ (call (Value.ref 44) _) _ _ _); k_dflt (refine' MGives.use (g_norm _ _ _ _ _ _ _ _ _ _ _ ?pa ?pb ?qc ?pd) ?B ?F ?X ?N ?T ?hk ?hd ?hu ?_ ?mo; (case B => k_asm); (case F => k_asm); (case X => k_asm); (case N => k_asm); (case T => k_asm); (case hk => rfl); (case hd => ((try dsimp only [Around.deeper, Around.in1, ktrTop]); omega)); (case hu => ((try dsimp only [Around.deeper, Around.in1, ktrTop]); omega)); (case mo => exact fun _ _ _ hs ht => Tn.mono ht hs); (case pa => first | with_reducible assumption | omega | (simp only [bits_one]; omega)); (case pb => first | with_reducible assumption | omega | (simp only [bits_one]; omega)); (case qc => first | with_reducible assumption | omega | (rename BitsBd _ => hz9; exact hz9 _ (by omega) (by omega))); (case pd => first | with_reducible assumption | omega | (simp only [bits_one]; omega)); k_whole); intro r' tl' h' tk' F' N' ho'; (obtain ⟨a', k1', k2', k3', k4', n', e', hB'⟩ := ho'); subst e'; (try dsimp only); (try k_sweep)))

set_option maxHeartbeats 4000000 in
theorem g_fme4 {w : World} {news : List (Addr × Obj)} (man ex : Int) (t1 t2 t3 t4 : Tok) :
    MGives w 3 52 [.int man t1, .int ex t2, .int 0 t3, .str (Str.ofString "d") t4] news (fun n r => Tn w n r (fme man ex)) := by
  refine MGives.intro ?_
  k_fill
  intro _ _
  unfold MGives
  intro p loose mean mg mb dp un gd cn cs a ccd cl outer A₀ base h₀ L m s Q E B F X N T hk hd hu hret
  refine wpAny_call ?_
  k_dflt (refine' code_def ?k1 ?k2 ?k3 ?k4 ?k5 ?kA ?kF ?kK ?k6 ?k7 ?k8 ?k9 ?kB ?_ ?c2 ?c3 ?c4 ?c5; (case kA => exact rfl); (case kF => exact rfl); (case kK => assumption); (case k1 => k_asm); (case k2 => k_asm); (case k3 => k_asm); (case k4 => k_asm); (case k5 => k_asm); (case k6 => k_is); (case k7 => k_is); (case k8 => ((try dsimp only [Around.deeper, Around.in1, ktrTop]); omega)); (case k9 => first | exact BindsTo.of_eq rfl | exact binds_K (by k_in) rfl (by k_is) rfl rfl rfl); (case c5 => decide); (case kB => exact locs rfl); (case c2 => exact rfl); (case c3 => exact rfl); (case c4 => exact rfl); k_whole; intro g₁ L₁ h₁ FG₁ F₁ N₁ B₁ X₁ T₁; (try dsimp only); (try k_fold))
  replace F₁ : Fr g₁ L₁ h₁ (mapOf [(Str.ofString "rnd", .str (Str.ofString "d") t4), (Str.ofString "prec", .int 0 t3), (Str.ofString "exp", .int ex t2), (Str.ofString "man", .int man t1)]) := fr_lookup F₁
  k_steps
  all_goals first
    | (refine hret _ _ _ _ (by k_asm) (by k_asm) (fun _ h => List.mem_cons_of_mem _ h) (Tn.of_eq ?_)
       first | rw [fme_neg ex (by assumption)] | rw [fme_pos ex (by assumption)]
       unfold fmeU
       repeat (first | rfl | refine (if_pos (by first | assumption | omega)).trans ?_ | refine (if_neg (by first | assumption | omega)).trans ?_))
    | (refine hret _ _ _ _ (by k_asm) (by k_asm) (fun _ h => h) ?_
       first | rw [fme_neg ex (by assumption)] | rw [fme_pos ex (by assumption)]
       unfold fmeU
       rw [if_pos (by assumption)]
       exact zeroT _ _)
set_option maxHeartbeats 4000000 in
theorem g_neg {w : World} {news : List (Addr × Obj)} (v : Value) (t : T4) (h1 : Tn w news v t) (hz : t.m = 0 → t.e = 0) :
    MGives w 3 68 [v] news (fun n r => Tn w n r (if t.m = 0 then t else ⟨1 - t.s, t.m, t.e, t.b⟩)) := by
  obtain ⟨va, u1, u2, u3, u4, un, rfl, hv⟩ := h1
  refine MGives.intro ?_
  k_fill
  intro _ _
  unfold MGives
  intro p loose mean mg mb dp un gd cn cs a ccd cl outer A₀ base h₀ L m s Q E B F X N T hk hd hu hret
  refine wpAny_call ?_
  k_dflt (refine' code_def ?k1 ?k2 ?k3 ?k4 ?k5 ?kA ?kF ?kK ?k6 ?k7 ?k8 ?k9 ?kB ?_ ?c2 ?c3 ?c4 ?c5; (case kA => exact rfl); (case kF => exact rfl); (case kK => assumption); (case k1 => k_asm); (case k2 => k_asm); (case k3 => k_asm); (case k4 => k_asm); (case k5 => k_asm); (case k6 => k_is); (case k7 => k_is); (case k8 => ((try dsimp only [Around.deeper, Around.in1, ktrTop]); omega)); (case k9 => first | exact BindsTo.of_eq rfl | exact binds_K (by k_in) rfl (by k_is) rfl rfl rfl); (case c5 => decide); (case kB => exact locs rfl); (case c2 => exact rfl); (case c3 => exact rfl); (case c4 => exact rfl); k_whole; intro g₁ L₁ h₁ FG₁ F₁ N₁ B₁ X₁ T₁; (try dsimp only); (try k_fold))
  replace F₁ : Fr g₁ L₁ h₁ (mapOf [(Str.ofString "rnd", _), (Str.ofString "prec", _), (Str.ofString "s", .ref va)]) := fr_lookup F₁
  k_steps
  · exact hret _ _ _ _ (by k_asm) (by k_asm) sub_cons (Tn.of_eq (if_neg (by assumption)))
  · exact hret _ _ _ _ (by k_asm) (by k_asm) sub_refl (Tn.of_bears hv (if_pos (by assumption)))
set_option maxHeartbeats 4000000 in
theorem g_shift {w : World} {news : List (Addr × Obj)} (v : Value) (t : T4) (k : Int) (t1 : Tok) (h1 : Tn w news v t) :
    MGives w 3 114 [v, .int k t1] news (fun n r => Tn w n r (if t.m = 0 then t else ⟨t.s, t.m, t.e + k, t.b⟩)) := by
  obtain ⟨va, u1, u2, u3, u4, un, rfl, hv⟩ := h1
  refine MGives.intro ?_
  k_fill
  intro _ _
  unfold MGives
  intro p loose mean mg mb dp un gd cn cs a ccd cl outer A₀ base h₀ L m s Q E B F X N T hk hd hu hret
  refine wpAny_call ?_
  k_dflt (refine' code_def ?k1 ?k2 ?k3 ?k4 ?k5 ?kA ?kF ?kK ?k6 ?k7 ?k8 ?k9 ?kB ?_ ?c2 ?c3 ?c4 ?c5; (case kA => exact rfl); (case kF => exact rfl); (case kK => assumption); (case k1 => k_asm); (case k2 => k_asm); (case k3 => k_asm); (case k4 => k_asm); (case k5 => k_asm); (case k6 => k_is); (case k7 => k_is); (case k8 => ((try dsimp only [Around.deeper, Around.in1, ktrTop]); omega)); (case k9 => first | exact BindsTo.of_eq rfl | exact binds_K (by k_in) rfl (by k_is) rfl rfl rfl); (case c5 => decide); (case kB => exact locs rfl); (case c2 => exact rfl); (case c3 => exact rfl); (case c4 => exact rfl); k_whole; intro g₁ L₁ h₁ FG₁ F₁ N₁ B₁ X₁ T₁; (try dsimp only); (try k_fold))
  replace F₁ : Fr g₁ L₁ h₁ (mapOf [(Str.ofString "n", .int k t1), (Str.ofString "s", .ref va)]) := fr_lookup F₁
  k_steps
  · exact hret _ _ _ _ (by k_asm) (by k_asm) sub_cons (Tn.of_eq (if_neg (by assumption)))
  · exact hret _ _ _ _ (by k_asm) (by k_asm) sub_refl (Tn.of_bears hv (if_pos (by assumption)))
set_option maxHeartbeats 4000000 in
theorem g_pos {w : World} {news : List (Addr × Obj)} (v : Value) (t : T4) (pr : Int) (t1 t2 : Tok) (h1 : Tn w news v t) (hz : t.m = 0 → t.e = 0) (hm : 0 ≤ t.m) (hb : t.b = (Builtin.Int.intBits t.m : Nat)) (hB : t.b < 1000000) (hp : 0 < pr) :
    MGives w 4 60 [v, .int pr t1, .str (Str.ofString "n") t2] news (fun n r => Tn w n r (nfI t.s t.m t.e pr)) := by
  obtain ⟨va, u1, u2, u3, u4, un, rfl, hv⟩ := h1
  refine MGives.intro ?_
  k_fill
  intro _ _
  unfold MGives
  intro p loose mean mg mb dp un gd cn cs a ccd cl outer A₀ base h₀ L m s Q E B F X N T hk hd hu hret
  refine wpAny_call ?_
  k_dflt (refine' code_def ?k1 ?k2 ?k3 ?k4 ?k5 ?kA ?kF ?kK ?k6 ?k7 ?k8 ?k9 ?kB ?_ ?c2 ?c3 ?c4 ?c5; (case kA => exact rfl); (case kF => exact rfl); (case kK => assumption); (case k1 => k_asm); (case k2 => k_asm); (case k3 => k_asm); (case k4 => k_asm); (case k5 => k_asm); (case k6 => k_is); (case k7 => k_is); (case k8 => ((try dsimp only [Around.deeper, Around.in1, ktrTop]); omega)); (case k9 => first | exact BindsTo.of_eq rfl | exact binds_K (by k_in) rfl (by k_is) rfl rfl rfl); (case c5 => decide); (case kB => exact locs rfl); (case c2 => exact rfl); (case c3 => exact rfl); (case c4 => exact rfl); k_whole; intro g₁ L₁ h₁ FG₁ F₁ N₁ B₁ X₁ T₁; (try dsimp only); (try k_fold))
  replace F₁ : Fr g₁ L₁ h₁ (mapOf [(Str.ofString "rnd", .str (Str.ofString "n") t2), (Str.ofString "prec", .int pr t1), (Str.ofString "s", .ref va)]) := fr_lookup F₁
  k_steps
  all_goals exact hret _ _ _ _ (by k_asm) (by k_asm) sub_app (Tn.of_bears (by assumption) rfl)
set_option maxHeartbeats 4000000 in
theorem g_sign {w : World} {news : List (Addr × Obj)} (v : Value) (t : T4) (h1 : Tn w news v t) (hz : t.m = 0 → t.e = 0) (hs0 : 0 ≤ t.s) (hs1 : t.s ≤ 1) :
    MGivesP w 20 83 [v] news (fun r => ∃ tk, r = .int (if t.m = 0 then 0 else (-1) ^ t.s.toNat) tk) := by
  obtain ⟨va, u1, u2, u3, u4, un, rfl, hv⟩ := h1
  refine MGives.intro ?_
  k_fill
  intro _ _
  unfold MGives
  intro p loose mean mg mb dp un gd cn cs a ccd cl outer A₀ base h₀ L m s Q E B F X N T hk hd hu hret
  refine wpAny_call ?_
  k_dflt (refine' code_def ?k1 ?k2 ?k3 ?k4 ?k5 ?kA ?kF ?kK ?k6 ?k7 ?k8 ?k9 ?kB ?_ ?c2 ?c3 ?c4 ?c5; (case kA => exact rfl); (case kF => exact rfl); (case kK => assumption); (case k1 => k_asm); (case k2 => k_asm); (case k3 => k_asm); (case k4 => k_asm); (case k5 => k_asm); (case k6 => k_is); (case k7 => k_is); (case k8 => ((try dsimp only [Around.deeper, Around.in1, ktrTop]); omega)); (case k9 => first | exact BindsTo.of_eq rfl | exact binds_K (by k_in) rfl (by k_is) rfl rfl rfl); (case c5 => decide); (case kB => exact locs rfl); (case c2 => exact rfl); (case c3 => exact rfl); (case c4 => exact rfl); k_whole; intro g₁ L₁ h₁ FG₁ F₁ N₁ B₁ X₁ T₁; (try dsimp only); (try k_fold))
  replace F₁ : Fr g₁ L₁ h₁ (mapOf [(Str.ofString "s", .ref va)]) := fr_lookup F₁
  k_steps
  all_goals (refine hret _ _ _ _ (by k_asm) (by k_asm) sub_refl ?_)
  · exact ⟨_, by rw [if_neg (by assumption)]⟩
  · exact ⟨_, by rw [if_pos (by assumption)]⟩
end Mine

-- C6
set_option maxRecDepth 100000
namespace Mine
open PySem PySem.W PyProof.Rows PySem.Spec PySem.Calls
local macro_rules | `(tactic| walk_at "never 0") => `(tactic| fail "never")
local macro_rules | `(tactic| walk_at "never 1") => `(tactic| fail "never")
local macro_rules | `(tactic| walk_at "never 2") => `(tactic| fail "never")
-- the walk's own lines: each step's token and heap named anew
local macro_rules | `(tactic| walk_at "binaryOp Add int int") => `(tactic| (with_reducible refine add_T ?_; intro _ _))
local macro_rules | `(tactic| walk_at "binaryOp Sub int int") => `(tactic| (with_reducible refine sub_T ?_; intro _ _))
local macro_rules | `(tactic| walk_at "binaryOp BitAnd int int") => `(tactic| (with_reducible refine and_T ?_; intro _ _))
local macro_rules | `(tactic| walk_at "binaryOp BitXor int int") => `(tactic| (with_reducible refine xor_T ?_; intro _ _))
local macro_rules | `(tactic| walk_at "inplaceOp Add int int") => `(tactic| (with_reducible refine iadd_T ?_; intro _ _))
local macro_rules | `(tactic| walk_at "inplaceOp Sub int int") => `(tactic| (with_reducible refine isub_T ?_; intro _ _))
local macro_rules | `(tactic| walk_at "inplaceOp BitXor int int") => `(tactic| (with_reducible refine ixor_T ?_; intro _ _))
local macro_rules | `(tactic| walk_at "binaryOp RShift int int") => `(tactic| ((with_reducible refine rsh_T ?_ ?_); omega; intro _ _))
local macro_rules | `(tactic| walk_at "inplaceOp RShift int int") => `(tactic| ((with_reducible refine irsh_T ?_ ?_); omega; intro _ _))
local macro_rules | `(tactic| walk_at "binaryOp LShift int int") => `(tactic| ((with_reducible refine lsh_T ?_ ?_ ?_); omega; (try simp only [bits_one]); omega; intro _ _))
local macro_rules | `(tactic| walk_at "inplaceOp LShift int int") => `(tactic| ((with_reducible refine ilsh_T ?_ ?_ ?_); omega; (try simp only [bits_one]); omega; intro _ _))
local macro_rules | `(tactic| walk_at "unaryOp USub int") => `(tactic| (with_reducible refine neg_T ?_; intro _ _))
local macro_rules | `(tactic| walk_at "call builtin:int.bit_length") => `(tactic| (with_reducible refine bits_T ?_; intro _ _))
local macro_rules | `(tactic| walk_at "eval Constant int") => `(tactic| (with_reducible refine const_T ?_; intro _ _))
local macro_rules | `(tactic| walk_at "storeName") => `(tactic| (k_here; k_dflt (refine' store_T ?F ?N ?_ ?a ?b; (case F => k_asm); (case N => k_asm); (case a => rfl); (case b => rfl); k_whole); intro h' tk' F' N'; (try k_sweep)))
local macro_rules | `(tactic| walk_at "newTuple") => `(tactic| (k_here; k_dflt (refine' tuple_T ?F ?N ?s ?_; (case F => k_asm); (case N => k_asm); (case s => decide); k_whole); intro h' r' F' N'; (try k_sweep)))
local macro_rules | `(tactic| walk_at "assign Tuple") => `(tactic| (k_here; (with_reducible show wpAny _ _ (assign (Expr.Tuple _ _ _) _ (Value.ref _)) _ _ _); k_dflt (refine' unpack_T ?B ?F ?X ?N ?a ?b ?c ?_; (case F => k_asm); (case X => k_asm); (case N => k_asm); (case B => (repeat (first | assumption | with_reducible exact Bears.here | exact finfB _ _ | exact fninfB _ _ | exact fzeroB _ _ | with_reducible refine Bears.cons ?_ | with_reducible refine Bears.app ?_))); (case a => rfl); (case b => rfl); (case c => rfl); k_whole); intro h' F' N'; (try k_sweep)))
local macro_rules | `(tactic| walk_at "ite") => `(tactic| with_reducible first
  | (refine dec_split ?_ ?_ <;> intro _) | (refine bne_split ?_ ?_ <;> intro _) | (refine beq_split ?_ ?_ <;> intro _))
local macro_rules | `(tactic| walk_at "compareOp Eq ref ref") => `(tactic| (k_here; k_dflt (first
  | (refine' eq_T ?B ?C ?F ?X ?N ?u ?_; (case F => k_asm); (case X => k_asm); (case N => k_asm); (case B => (repeat (first | assumption | with_reducible exact Bears.here | exact finfB _ _ | exact fninfB _ _ | exact fzeroB _ _ | with_reducible refine Bears.cons ?_ | with_reducible refine Bears.app ?_))); (case C => (repeat (first | assumption | with_reducible exact Bears.here | exact finfB _ _ | exact fninfB _ _ | exact fzeroB _ _ | with_reducible refine Bears.cons ?_ | with_reducible refine Bears.app ?_))); (case u => ((try dsimp only [Around.deeper, Around.in1, ktrTop]); omega)); k_whole)
  | (refine' eqL_T ?B ?C ?F ?X ?N ?u ?_; (case F => k_asm); (case X => k_asm); (case N => k_asm); (case B => (repeat (first | assumption | with_reducible exact Bears.here | exact finfB _ _ | exact fninfB _ _ | exact fzeroB _ _ | with_reducible refine Bears.cons ?_ | with_reducible refine Bears.app ?_))); (case C => (repeat (first | assumption | with_reducible exact Bears.here | exact finfB _ _ | exact fninfB _ _ | exact fzeroB _ _ | with_reducible refine Bears.cons ?_ | with_reducible refine Bears.app ?_))); (case u => ((try dsimp only [Around.deeper, Around.in1, ktrTop]); omega)); k_whole))))
local macro_rules | `(tactic| walk_at "compareOp NotEq ref ref") => `(tactic| (k_here; k_dflt (refine' ne_T ?B ?C ?F ?X ?N ?u ?_; (case F => k_asm); (case X => k_asm); (case N => k_asm); (case B => (repeat (first | assumption | with_reducible exact Bears.here | exact finfB _ _ | exact fninfB _ _ | exact fzeroB _ _ | with_reducible refine Bears.cons ?_ | with_reducible refine Bears.app ?_))); (case C => (repeat (first | assumption | with_reducible exact Bears.here | exact finfB _ _ | exact fninfB _ _ | exact fzeroB _ _ | with_reducible refine Bears.cons ?_ | with_reducible refine Bears.app ?_))); (case u => ((try dsimp only [Around.deeper, Around.in1, ktrTop]); omega)); k_whole)))
local macro_rules | `(tactic| walk_at "subscriptTail") => `(tactic| (k_here; (with_reducible show wpAny _ _ (subscriptTail _ _ (Value.ref _) (Value.int _ _)) _ _ _); k_dflt (refine' item_T ?B ?F ?X ?N ?i ?x ?_ ?s; (case F => k_asm); (case X => k_asm); (case N => k_asm); (case B => (repeat (first | assumption | with_reducible exact Bears.here | exact finfB _ _ | exact fninfB _ _ | exact fzeroB _ _ | with_reducible refine Bears.cons ?_ | with_reducible refine Bears.app ?_))); (case i => omega); (case x => rfl); (case s => with_unfolding_all rfl); k_whole)))
local macro_rules | `(tactic| walk_at "binaryOp Pow int int") => `(tactic| ((with_reducible refine pow_T ?_ ?_ ?_ ?_); omega; omega; omega; intro _ _))
local macro_rules | `(tactic| walk_at "ite") => `(tactic| with_reducible first
  | (refine eqb_tt (by assumption) ?_) | (refine eqb_ff (by assumption) ?_) | (refine eqb_ff_e (by (dsimp only; omega)) ?_))
local macro_rules | `(tactic| walk_at "ite") => `(tactic| with_reducible first
  | (refine dec_tt (by omega) ?_) | (refine dec_ff (by omega) ?_) | (refine bne_tt (by omega) ?_) | (refine bne_ff (by omega) ?_) | (refine beq_tt (by omega) ?_) | (refine beq_ff (by omega) ?_) | (refine not_ite ?_))
local macro_rules | `(tactic| walk_at "eval Name") => `(tactic| (k_here; k_dflt (refine' name_G ?F ?X ?T ?e ?_ ?a ?b ?c; (case F => k_asm); (case X => k_asm); (case T => k_asm); (case e => k_is); (case b => kernel_rfl);  (case a => rfl); (case c => kernel_rfl); k_whole)))
local macro_rules | `(tactic| walk_at "eval Name") => `(tactic| (k_here; k_dflt (refine' name_T ?F ?v ?_ ?a ?b ?c; (case F => k_asm); (case v => (first | with_reducible exact look_here | with_reducible assumption | (simp only [ofString_eq, mapOf, String.reduceEq, ↓reduceIte] <;> first | rfl | with_reducible assumption))); (case b => kernel_rfl); (case a => rfl); (case c => kernel_rfl); k_whole)))
local macro_rules | `(tactic| walk_at "loadName") => `(tactic| (k_here; k_dflt (refine' loadn_T ?F ?v ?_ ?a ?b; (case F => k_asm); (case v => (first | with_reducible exact look_here | with_reducible assumption | (simp only [ofString_eq, mapOf, String.reduceEq, ↓reduceIte] <;> first | rfl | with_reducible assumption))); (case b => kernel_rfl); (case a => rfl); k_whole)))
local macro_rules | `(tactic| walk_at "exec If") => `(tactic| with_reducible refine wpAny_If ?_)
local macro_rules | `(tactic| walk_at "exec For Name Name cons nil") => `(tactic| (refine Stop.intro ?_))
local macro_rules | `(tactic| walk_at "exec For Name Call cons nil") => `(tactic| (refine Stop.intro ?_))
local macro_rules | `(tactic| walk_at "exec While Compare cons nil") => `(tactic| (refine Stop.intro ?_))
local macro_rules | `(tactic| walk_at "exec While BoolOp cons nil") => `(tactic| (refine Stop.intro ?_))
local macro_rules | `(tactic| walk_at "call builtin:isinstance") => `(tactic| (k_here; (with_reducible show wpAny _ _ (call (Value.builtin "isinstance") [Value.ref _, Value.type "tuple"]) _ _ _); k_dflt (refine' isi_T ?B ?F ?X ?N ?_; (case F => k_asm); (case X => k_asm); (case N => k_asm); (case B => (repeat (first | assumption | with_reducible exact Bears.here | exact finfB _ _ | exact fninfB _ _ | exact fzeroB _ _ | with_reducible refine Bears.cons ?_ | with_reducible refine Bears.app ?_))); k_whole)))
local macro_rules | `(tactic| walk_at "call builtin:len") => `(tactic| (k_here; (with_reducible show wpAny _ _ (call (Value.builtin "len") [Value.ref _]) _ _ _); k_dflt (refine' len_T ?B ?F ?X ?N ?_; (case F => k_asm); (case X => k_asm); (case N => k_asm); (case B => (repeat (first | assumption | with_reducible exact Bears.here | exact finfB _ _ | exact fninfB _ _ | exact fzeroB _ _ | with_reducible refine Bears.cons ?_ | with_reducible refine Bears.app ?_))); k_whole); intro _ _))
local macro_rules | `(tactic| walk_at "call builtin:divmod") => `(tactic| (k_here; k_dflt (refine' divmod_T ?F ?N ?b ?p ?_; (case F => k_asm); (case N => k_asm); (case b => first | with_reducible assumption | omega); (case p => with_reducible assumption); k_whole); intro h' r' t1' t2' tk' F' N'; (try k_sweep)))
local macro_rules | `(tactic| walk_at "inplaceOp FloorDiv int int") => `(tactic| ((with_reducible refine ifdiv_T ?_ ?_ ?_); decide; decide +kernel; intro _ _))
local macro_rules | `(tactic| walk_at "binaryOp Mod int int") => `(tactic| ((with_reducible refine mod_T ?_ ?_); omega; intro _ _))
local macro_rules | `(tactic| walk_at "call ref") => `(tactic| (k_here; (with_reducible show wpAny _ _ (call (Value.ref 44) _) _ _ _); k_dflt (refine' MGives.use (g_norm _ _ _ _ _ _ _ _ _ _ _ ?pa ?pb ?qc ?pd) ?B ?F ?X ?N ?T ?hk ?hd ?hu ?_ ?mo; (case B => k_asm); (case F => k_asm); (case X => k_asm); (case N => k_asm); (case T => k_asm); (case hk => rfl); (case hd => ((try dsimp only [Around.deeper, Around.in1, ktrTop]); omega)); (case hu => ((try dsimp only [Around.deeper, Around.in1, ktrTop]); omega)); (case mo => exact fun _ _ _ hs ht => Tn.mono ht hs); (case pa => first | with_reducible assumption | omega | (simp only [bits_one]; omega)); (case pb => first | with_reducible assumption | omega | (simp only [bits_one]; omega)); (case qc => first | with_reducible assumption | omega | (rename BitsBd _ => hz9; exact hz9 _ (by omega) (by omega))); (case pd => first | with_reducible assumption | omega | (simp only [bits_one]; omega)); k_whole); intro r' tl' h' tk' F' N' ho'; (obtain ⟨a', k1', k2', k3', k4', n', e', hB'⟩ := ho'); subst e'; (try dsimp only); (try k_sweep)))
local macro_rules | `(tactic| walk_at "call ref") => `(tactic| (k_here; (with_reducible show wpAny _ _ (call (Value.ref 68) _) _ _ _); k_dflt (refine' MGives.use (g_neg _ _ ?ta ?ib) ?B ?F ?X ?N ?T ?hk ?hd ?hu ?_ ?mo; (case B => k_asm); (case F => k_asm); (case X => k_asm); (case N => k_asm); (case T => k_asm); (case hk => rfl); (case hd => ((try dsimp only [Around.deeper, Around.in1, ktrTop]); omega)); (case hu => ((try dsimp only [Around.deeper, Around.in1, ktrTop]); omega)); (case mo => exact fun _ _ _ hs ht => Tn.mono ht hs); (case ta => first | with_reducible assumption | exact Tn.of_bears (by (repeat (first | with_reducible assumption | with_reducible exact Bears.here | with_reducible refine Bears.cons ?_ | with_reducible refine Bears.app ?_))) rfl); (case ib => first | with_reducible assumption | exact fun h9 => by omega); k_whole); intro r' tl' h' tk' F' N' ho'; (obtain ⟨a', k1', k2', k3', k4', n', e', hB'⟩ := ho'); subst e'; (try dsimp only); (try k_sweep)))

set_option maxHeartbeats 40000000 in
theorem g_addB {w : World} {news : List (Addr × Obj)} {vs : List Value} (v1 v2 : Value) (x y : T4) (pr sub : Int) (t1 t2 t3 : Tok) (h1 : Tn w news v1 x) (h2 : Tn w news v2 y) (H : AddOk x y pr sub)
    (hbind : BindsAt w 91 vs [(Str.ofString "s", v1), (Str.ofString "t", v2), (Str.ofString "prec", .int pr t1), (Str.ofString "rnd", .str (Str.ofString "n") t2), (Str.ofString "_sub", .int sub t3)]) :
    MGives w 8 91 vs news (fun n r => Tn w n r (pyAdd x y pr sub)) := by
  obtain ⟨va, u1, u2, u3, u4, un, rfl, hv⟩ := h1
  obtain ⟨vb, w1, w2, w3, w4, wn, rfl, hw⟩ := h2
  obtain ⟨Z, hZ, Z1, Z2, Z3, Z4, Z5, Z6, Z7, Z8, Z9, Z10, Z11⟩ := H.bound
  obtain ⟨p0, p1, psub, pts, pss, psm, ptm, psb, ptb, psB, ptB, psz, ptz, pe1, pe2⟩ := H
  refine MGives.intro ?_
  k_fill
  intro _ _
  unfold MGives
  intro p loose mean mg mb dp un gd cn cs a ccd cl outer A₀ base h₀ L m s Q E B F X N T hk hd hu hret
  refine wpAny_call ?_
  k_dflt (refine' code_def ?k1 ?k2 ?k3 ?k4 ?k5 ?kA ?kF ?kK ?k6 ?k7 ?k8 ?k9 ?kB ?_ ?c2 ?c3 ?c4 ?c5; (case kA => exact rfl); (case kF => exact rfl); (case kK => assumption); (case k1 => k_asm); (case k2 => k_asm); (case k3 => k_asm); (case k4 => k_asm); (case k5 => k_asm); (case k6 => k_is); (case k7 => k_is); (case k8 => ((try dsimp only [Around.deeper, Around.in1, ktrTop]); omega)); (case k9 => exact BindsAt.use hbind (by k_in) (by k_is)); (case c5 => decide); (case kB => exact locs rfl); (case c2 => exact rfl); (case c3 => exact rfl); (case c4 => exact rfl); k_whole; intro g₁ L₁ h₁ FG₁ F₁ N₁ B₁ X₁ T₁; (try dsimp only); (try k_fold))
  replace F₁ : Fr g₁ L₁ h₁ (mapOf [(Str.ofString "_sub", .int sub t3), (Str.ofString "rnd", .str (Str.ofString "n") t2), (Str.ofString "prec", .int pr t1), (Str.ofString "t", .ref vb), (Str.ofString "s", .ref va)]) := fr_lookup F₁
  k_steps
  all_goals (refine hret _ _ _ _ (by k_asm) (by k_asm) (by first | exact sub_refl | exact sub_app | exact sub_trans sub_app sub_app) (Tn.of_bears (by with_reducible assumption) ?_))
  all_goals unfold pyAdd
  all_goals (repeat (first
    | rfl
    | exact (if_pos (by with_reducible assumption)).symm
    | refine (if_pos (by first | with_reducible assumption | omega)).trans ?_
    | refine (if_neg (by first | with_reducible assumption | omega)).trans ?_
    | unfold paUp | unfold paLo | unfold paEq | unfold paBig | unfold paS))
end Mine

-- C7
set_option maxRecDepth 100000
namespace Mine
open PySem PySem.W PyProof.Rows PySem.Spec PySem.Calls
local macro_rules | `(tactic| walk_at "never 0") => `(tactic| fail "never")
local macro_rules | `(tactic| walk_at "never 1") => `(tactic| fail "never")
local macro_rules | `(tactic| walk_at "never 2") => `(tactic| fail "never")
local macro_rules | `(tactic| walk_at "never 3") => `(tactic| fail "never")
local macro_rules | `(tactic| walk_at "never 4") => `(tactic| fail "never")
-- the walk's own lines: each step's token and heap named anew
local macro_rules | `(tactic| walk_at "binaryOp Add int int") => `(tactic| (with_reducible refine add_T ?_; intro _ _))
local macro_rules | `(tactic| walk_at "binaryOp Sub int int") => `(tactic| (with_reducible refine sub_T ?_; intro _ _))
local macro_rules | `(tactic| walk_at "binaryOp BitAnd int int") => `(tactic| (with_reducible refine and_T ?_; intro _ _))
local macro_rules | `(tactic| walk_at "binaryOp BitXor int int") => `(tactic| (with_reducible refine xor_T ?_; intro _ _))
local macro_rules | `(tactic| walk_at "inplaceOp Add int int") => `(tactic| (with_reducible refine iadd_T ?_; intro _ _))
local macro_rules | `(tactic| walk_at "inplaceOp Sub int int") => `(tactic| (with_reducible refine isub_T ?_; intro _ _))
local macro_rules | `(tactic| walk_at "inplaceOp BitXor int int") => `(tactic| (with_reducible refine ixor_T ?_; intro _ _))
local macro_rules | `(tactic| walk_at "binaryOp RShift int int") => `(tactic| ((with_reducible refine rsh_T ?_ ?_); omega; intro _ _))
local macro_rules | `(tactic| walk_at "inplaceOp RShift int int") => `(tactic| ((with_reducible refine irsh_T ?_ ?_); omega; intro _ _))
local macro_rules | `(tactic| walk_at "binaryOp LShift int int") => `(tactic| ((with_reducible refine lsh_T ?_ ?_ ?_); omega; (try simp only [bits_one]); omega; intro _ _))
local macro_rules | `(tactic| walk_at "inplaceOp LShift int int") => `(tactic| ((with_reducible refine ilsh_T ?_ ?_ ?_); omega; (try simp only [bits_one]); omega; intro _ _))
local macro_rules | `(tactic| walk_at "unaryOp USub int") => `(tactic| (with_reducible refine neg_T ?_; intro _ _))
local macro_rules | `(tactic| walk_at "call builtin:int.bit_length") => `(tactic| (with_reducible refine bits_T ?_; intro _ _))
local macro_rules | `(tactic| walk_at "eval Constant int") => `(tactic| (with_reducible refine const_T ?_; intro _ _))
local macro_rules | `(tactic| walk_at "storeName") => `(tactic| (k_here; k_dflt (refine' store_T ?F ?N ?_ ?a ?b; (case F => k_asm); (case N => k_asm); (case a => rfl); (case b => rfl); k_whole); intro h' tk' F' N'; (try k_sweep)))
local macro_rules | `(tactic| walk_at "newTuple") => `(tactic| (k_here; k_dflt (refine' tuple_T ?F ?N ?s ?_; (case F => k_asm); (case N => k_asm); (case s => decide); k_whole); intro h' r' F' N'; (try k_sweep)))
local macro_rules | `(tactic| walk_at "assign Tuple") => `(tactic| (k_here; (with_reducible show wpAny _ _ (assign (Expr.Tuple _ _ _) _ (Value.ref _)) _ _ _); k_dflt (refine' unpack_T ?B ?F ?X ?N ?a ?b ?c ?_; (case F => k_asm); (case X => k_asm); (case N => k_asm); (case B => (repeat (first | assumption | with_reducible exact Bears.here | exact finfB _ _ | exact fninfB _ _ | exact fzeroB _ _ | with_reducible refine Bears.cons ?_ | with_reducible refine Bears.app ?_))); (case a => rfl); (case b => rfl); (case c => rfl); k_whole); intro h' F' N'; (try k_sweep)))
local macro_rules | `(tactic| walk_at "ite") => `(tactic| with_reducible first
  | (refine dec_split ?_ ?_ <;> intro _) | (refine bne_split ?_ ?_ <;> intro _) | (refine beq_split ?_ ?_ <;> intro _))
local macro_rules | `(tactic| walk_at "compareOp Eq ref ref") => `(tactic| (k_here; k_dflt (first
  | (refine' eq_T ?B ?C ?F ?X ?N ?u ?_; (case F => k_asm); (case X => k_asm); (case N => k_asm); (case B => (repeat (first | assumption | with_reducible exact Bears.here | exact finfB _ _ | exact fninfB _ _ | exact fzeroB _ _ | with_reducible refine Bears.cons ?_ | with_reducible refine Bears.app ?_))); (case C => (repeat (first | assumption | with_reducible exact Bears.here | exact finfB _ _ | exact fninfB _ _ | exact fzeroB _ _ | with_reducible refine Bears.cons ?_ | with_reducible refine Bears.app ?_))); (case u => ((try dsimp only [Around.deeper, Around.in1, ktrTop]); omega)); k_whole)
  | (refine' eqL_T ?B ?C ?F ?X ?N ?u ?_; (case F => k_asm); (case X => k_asm); (case N => k_asm); (case B => (repeat (first | assumption | with_reducible exact Bears.here | exact finfB _ _ | exact fninfB _ _ | exact fzeroB _ _ | with_reducible refine Bears.cons ?_ | with_reducible refine Bears.app ?_))); (case C => (repeat (first | assumption | with_reducible exact Bears.here | exact finfB _ _ | exact fninfB _ _ | exact fzeroB _ _ | with_reducible refine Bears.cons ?_ | with_reducible refine Bears.app ?_))); (case u => ((try dsimp only [Around.deeper, Around.in1, ktrTop]); omega)); k_whole))))
local macro_rules | `(tactic| walk_at "compareOp NotEq ref ref") => `(tactic| (k_here; k_dflt (refine' ne_T ?B ?C ?F ?X ?N ?u ?_; (case F => k_asm); (case X => k_asm); (case N => k_asm); (case B => (repeat (first | assumption | with_reducible exact Bears.here | exact finfB _ _ | exact fninfB _ _ | exact fzeroB _ _ | with_reducible refine Bears.cons ?_ | with_reducible refine Bears.app ?_))); (case C => (repeat (first | assumption | with_reducible exact Bears.here | exact finfB _ _ | exact fninfB _ _ | exact fzeroB _ _ | with_reducible refine Bears.cons ?_ | with_reducible refine Bears.app ?_))); (case u => ((try dsimp only [Around.deeper, Around.in1, ktrTop]); omega)); k_whole)))
local macro_rules | `(tactic| walk_at "subscriptTail") => `(tactic| (k_here; (with_reducible show wpAny _ _ (subscriptTail _ _ (Value.ref _) (Value.int _ _)) _ _ _); k_dflt (refine' item_T ?B ?F ?X ?N ?i ?x ?_ ?s; (case F => k_asm); (case X => k_asm); (case N => k_asm); (case B => (repeat (first | assumption | with_reducible exact Bears.here | exact finfB _ _ | exact fninfB _ _ | exact fzeroB _ _ | with_reducible refine Bears.cons ?_ | with_reducible refine Bears.app ?_))); (case i => omega); (case x => rfl); (case s => with_unfolding_all rfl); k_whole)))
local macro_rules | `(tactic| walk_at "binaryOp Pow int int") => `(tactic| ((with_reducible refine pow_T ?_ ?_ ?_ ?_); omega; omega; omega; intro _ _))
local macro_rules | `(tactic| walk_at "ite") => `(tactic| with_reducible first
  | (refine eqb_tt (by assumption) ?_) | (refine eqb_ff (by assumption) ?_) | (refine eqb_ff_e (by (dsimp only; omega)) ?_))
local macro_rules | `(tactic| walk_at "ite") => `(tactic| with_reducible first
  | (refine dec_tt (by omega) ?_) | (refine dec_ff (by omega) ?_) | (refine bne_tt (by omega) ?_) | (refine bne_ff (by omega) ?_) | (refine beq_tt (by omega) ?_) | (refine beq_ff (by omega) ?_) | (refine not_ite ?_))
local macro_rules | `(tactic| walk_at "eval Name") => `(tactic| (k_here; k_dflt (refine' name_G ?F ?X ?T ?e ?_ ?a ?b ?c; (case F => k_asm); (case X => k_asm); (case T => k_asm); (case e => k_is); (case b => kernel_rfl);  (case a => rfl); (case c => kernel_rfl); k_whole)))
local macro_rules | `(tactic| walk_at "eval Name") => `(tactic| (k_here; k_dflt (refine' name_T ?F ?v ?_ ?a ?b ?c; (case F => k_asm); (case v => (first | with_reducible exact look_here | with_reducible assumption | (simp only [ofString_eq, mapOf, String.reduceEq, ↓reduceIte] <;> first | rfl | with_reducible assumption))); (case b => kernel_rfl); (case a => rfl); (case c => kernel_rfl); k_whole)))
local macro_rules | `(tactic| walk_at "loadName") => `(tactic| (k_here; k_dflt (refine' loadn_T ?F ?v ?_ ?a ?b; (case F => k_asm); (case v => (first | with_reducible exact look_here | with_reducible assumption | (simp only [ofString_eq, mapOf, String.reduceEq, ↓reduceIte] <;> first | rfl | with_reducible assumption))); (case b => kernel_rfl); (case a => rfl); k_whole)))
local macro_rules | `(tactic| walk_at "exec If") => `(tactic| with_reducible refine wpAny_If ?_)
local macro_rules | `(tactic| walk_at "exec For Name Name cons nil") => `(tactic| (refine Stop.intro ?_))
local macro_rules | `(tactic| walk_at "exec For Name Call cons nil") => `(tactic| (refine Stop.intro ?_))
local macro_rules | `(tactic| walk_at "exec While Compare cons nil") => `(tactic| (refine Stop.intro ?_))
local macro_rules | `(tactic| walk_at "exec While BoolOp cons nil") => `(tactic| (refine Stop.intro ?_))
local macro_rules | `(tactic| walk_at "call builtin:isinstance") => `(tactic| (k_here; (with_reducible show wpAny _ _ (call (Value.builtin "isinstance") [Value.ref _, Value.type "tuple"]) _ _ _); k_dflt (refine' isi_T ?B ?F ?X ?N ?_; (case F => k_asm); (case X => k_asm); (case N => k_asm); (case B => (repeat (first | assumption | with_reducible exact Bears.here | exact finfB _ _ | exact fninfB _ _ | exact fzeroB _ _ | with_reducible refine Bears.cons ?_ | with_reducible refine Bears.app ?_))); k_whole)))
local macro_rules | `(tactic| walk_at "call builtin:len") => `(tactic| (k_here; (with_reducible show wpAny _ _ (call (Value.builtin "len") [Value.ref _]) _ _ _); k_dflt (refine' len_T ?B ?F ?X ?N ?_; (case F => k_asm); (case X => k_asm); (case N => k_asm); (case B => (repeat (first | assumption | with_reducible exact Bears.here | exact finfB _ _ | exact fninfB _ _ | exact fzeroB _ _ | with_reducible refine Bears.cons ?_ | with_reducible refine Bears.app ?_))); k_whole); intro _ _))
local macro_rules | `(tactic| walk_at "call builtin:divmod") => `(tactic| (k_here; k_dflt (refine' divmod_T ?F ?N ?b ?p ?_; (case F => k_asm); (case N => k_asm); (case b => first | with_reducible assumption | omega); (case p => with_reducible assumption); k_whole); intro h' r' t1' t2' tk' F' N'; (try k_sweep)))
local macro_rules | `(tactic| walk_at "inplaceOp FloorDiv int int") => `(tactic| ((with_reducible refine ifdiv_T ?_ ?_ ?_); decide; decide +kernel; intro _ _))
local macro_rules | `(tactic| walk_at "binaryOp Mod int int") => `(tactic| ((with_reducible refine mod_T ?_ ?_); omega; intro _ _))

theorem g_add5 {w : World} {news : List (Addr × Obj)} (v1 v2 : Value) (x y : T4) (pr sub : Int) (t1 t2 t3 : Tok) (h1 : Tn w news v1 x) (h2 : Tn w news v2 y) (H : AddOk x y pr sub) :
    MGives w 8 91 [v1, v2, .int pr t1, .str (Str.ofString "n") t2, .int sub t3] news (fun n r => Tn w n r (pyAdd x y pr sub)) := by
  refine MGives.intro ?_
  k_fill
  intro _ _
  refine g_addB v1 v2 x y pr sub t1 t2 t3 h1 h2 H ?_
  refine' BindsAt.of ?e ?h
  case e => k_is
  case h =>
    intro s fd X hd
    cases hd
    first | exact BindsTo.of_eq rfl | exact binds_K X rfl (by k_is) rfl rfl rfl
theorem g_add4 {w : World} {news : List (Addr × Obj)} (v1 v2 : Value) (x y : T4) (pr : Int) (t1 t2 : Tok) (h1 : Tn w news v1 x) (h2 : Tn w news v2 y) (H : AddOk x y pr 0) :
    MGives w 8 91 [v1, v2, .int pr t1, .str (Str.ofString "n") t2] news (fun n r => Tn w n r (pyAdd x y pr 0)) := by
  refine MGives.intro ?_
  k_fill
  intro _ _
  refine g_addB v1 v2 x y pr 0 t1 t2 342 h1 h2 H ?_
  refine' BindsAt.of ?e ?h
  case e => k_is
  case h =>
    intro s fd X hd
    cases hd
    first | exact BindsTo.of_eq rfl | exact binds_K X rfl (by k_is) rfl rfl rfl

local macro_rules | `(tactic| walk_at "call ref") => `(tactic| (k_here; (with_reducible show wpAny _ _ (call (Value.ref 91) _) _ _ _); k_dflt (refine' MGives.use (g_add5 _ _ _ _ _ _ _ _ _ ?ta ?tb ?pH) ?B ?F ?X ?N ?T ?hk ?hd ?hu ?_ ?mo; (case B => k_asm); (case F => k_asm); (case X => k_asm); (case N => k_asm); (case T => k_asm); (case hk => rfl); (case hd => ((try dsimp only [Around.deeper, Around.in1, ktrTop]); omega)); (case hu => ((try dsimp only [Around.deeper, Around.in1, ktrTop]); omega)); (case mo => exact fun _ _ _ hs ht => Tn.mono ht hs); (case ta => first | with_reducible assumption | exact Tn.of_bears (by (repeat (first | with_reducible assumption | with_reducible exact Bears.here | with_reducible refine Bears.cons ?_ | with_reducible refine Bears.app ?_))) rfl); (case tb => first | with_reducible assumption | exact Tn.of_bears (by (repeat (first | with_reducible assumption | with_reducible exact Bears.here | with_reducible refine Bears.cons ?_ | with_reducible refine Bears.app ?_))) rfl); (case pH => first | with_reducible assumption | omega | (simp only [bits_one]; omega)); k_whole); intro r' tl' h' tk' F' N' ho'; (obtain ⟨a', k1', k2', k3', k4', n', e', hB'⟩ := ho'); subst e'; (try dsimp only); (try k_sweep)))
set_option maxHeartbeats 4000000 in
theorem g_sub {w : World} {news : List (Addr × Obj)} (v1 v2 : Value) (x y : T4) (pr : Int) (t1 t2 : Tok) (h1 : Tn w news v1 x) (h2 : Tn w news v2 y) (H : AddOk x y pr 1) :
    MGives w 9 99 [v1, v2, .int pr t1, .str (Str.ofString "n") t2] news (fun n r => Tn w n r (pyAdd x y pr 1)) := by
  obtain ⟨va, u1, u2, u3, u4, un, rfl, hv⟩ := h1
  obtain ⟨vb, w1, w2, w3, w4, wn, rfl, hw⟩ := h2
  refine MGives.intro ?_
  k_fill
  intro _ _
  unfold MGives
  intro p loose mean mg mb dp un gd cn cs a ccd cl outer A₀ base h₀ L m s Q E B F X N T hk hd hu hret
  refine wpAny_call ?_
  k_dflt (refine' code_def ?k1 ?k2 ?k3 ?k4 ?k5 ?kA ?kF ?kK ?k6 ?k7 ?k8 ?k9 ?kB ?_ ?c2 ?c3 ?c4 ?c5; (case kA => exact rfl); (case kF => exact rfl); (case kK => assumption); (case k1 => k_asm); (case k2 => k_asm); (case k3 => k_asm); (case k4 => k_asm); (case k5 => k_asm); (case k6 => k_is); (case k7 => k_is); (case k8 => ((try dsimp only [Around.deeper, Around.in1, ktrTop]); omega)); (case k9 => first | exact BindsTo.of_eq rfl | exact binds_K (by k_in) rfl (by k_is) rfl rfl rfl); (case c5 => decide); (case kB => exact locs rfl); (case c2 => exact rfl); (case c3 => exact rfl); (case c4 => exact rfl); k_whole; intro g₁ L₁ h₁ FG₁ F₁ N₁ B₁ X₁ T₁; (try dsimp only); (try k_fold))
  replace F₁ : Fr g₁ L₁ h₁ (mapOf [(Str.ofString "rnd", .str (Str.ofString "n") t2), (Str.ofString "prec", .int pr t1), (Str.ofString "t", .ref vb), (Str.ofString "s", .ref va)]) := fr_lookup F₁
  k_steps
  all_goals exact hret _ _ _ _ (by k_asm) (by k_asm) sub_app (Tn.of_bears (by with_reducible assumption) rfl)
end Mine

-- C8
set_option maxRecDepth 100000
namespace Mine
open PySem PySem.W PyProof.Rows PySem.Spec PySem.Calls
local macro_rules | `(tactic| walk_at "never 0") => `(tactic| fail "never")
local macro_rules | `(tactic| walk_at "never 1") => `(tactic| fail "never")
local macro_rules | `(tactic| walk_at "never 2") => `(tactic| fail "never")
local macro_rules | `(tactic| walk_at "never 3") => `(tactic| fail "never")
local macro_rules | `(tactic| walk_at "never 4") => `(tactic| fail "never")
local macro_rules | `(tactic| walk_at "never 5") => `(tactic| fail "never")
-- the walk's own lines: each step's token and heap named anew
local macro_rules | `(tactic| walk_at "binaryOp Add int int") => `(tactic| (with_reducible refine add_T ?_; intro _ _))
local macro_rules | `(tactic| walk_at "binaryOp Sub int int") => `(tactic| (with_reducible refine sub_T ?_; intro _ _))
local macro_rules | `(tactic| walk_at "binaryOp BitAnd int int") => `(tactic| (with_reducible refine and_T ?_; intro _ _))
local macro_rules | `(tactic| walk_at "binaryOp BitXor int int") => `(tactic| (with_reducible refine xor_T ?_; intro _ _))
local macro_rules | `(tactic| walk_at "inplaceOp Add int int") => `(tactic| (with_reducible refine iadd_T ?_; intro _ _))
local macro_rules | `(tactic| walk_at "inplaceOp Sub int int") => `(tactic| (with_reducible refine isub_T ?_; intro _ _))
local macro_rules | `(tactic| walk_at "inplaceOp BitXor int int") => `(tactic| (with_reducible refine ixor_T ?_; intro _ _))
local macro_rules | `(tactic| walk_at "binaryOp RShift int int") => `(tactic| ((with_reducible refine rsh_T ?_ ?_); omega; intro _ _))
local macro_rules | `(tactic| walk_at "inplaceOp RShift int int") => `(tactic| ((with_reducible refine irsh_T ?_ ?_); omega; intro _ _))
local macro_rules | `(tactic| walk_at "binaryOp LShift int int") => `(tactic| ((with_reducible refine lsh_T ?_ ?_ ?_); omega; (try simp only [bits_one]); omega; intro _ _))
local macro_rules | `(tactic| walk_at "inplaceOp LShift int int") => `(tactic| ((with_reducible refine ilsh_T ?_ ?_ ?_); omega; (try simp only [bits_one]); omega; intro _ _))
local macro_rules | `(tactic| walk_at "unaryOp USub int") => `(tactic| (with_reducible refine neg_T ?_; intro _ _))
local macro_rules | `(tactic| walk_at "call builtin:int.bit_length") => `(tactic| (with_reducible refine bits_T ?_; intro _ _))
local macro_rules | `(tactic| walk_at "eval Constant int") => `(tactic| (with_reducible refine const_T ?_; intro _ _))
local macro_rules | `(tactic| walk_at "storeName") => `(tactic| (k_here; k_dflt (refine' store_T ?F ?N ?_ ?a ?b; (case F => k_asm); (case N => k_asm); (case a => rfl); (case b => rfl); k_whole); intro h' tk' F' N'; (try k_sweep)))
local macro_rules | `(tactic| walk_at "newTuple") => `(tactic| (k_here; k_dflt (refine' tuple_T ?F ?N ?s ?_; (case F => k_asm); (case N => k_asm); (case s => decide); k_whole); intro h' r' F' N'; (try k_sweep)))
local macro_rules | `(tactic| walk_at "assign Tuple") => `(tactic| (k_here; (with_reducible show wpAny _ _ (assign (Expr.Tuple _ _ _) _ (Value.ref _)) _ _ _); k_dflt (refine' unpack_T ?B ?F ?X ?N ?a ?b ?c ?_; (case F => k_asm); (case X => k_asm); (case N => k_asm); (case B => (repeat (first | assumption | with_reducible exact Bears.here | exact finfB _ _ | exact fninfB _ _ | exact fzeroB _ _ | with_reducible refine Bears.cons ?_ | with_reducible refine Bears.app ?_))); (case a => rfl); (case b => rfl); (case c => rfl); k_whole); intro h' F' N'; (try k_sweep)))
local macro_rules | `(tactic| walk_at "ite") => `(tactic| with_reducible first
  | (refine dec_split ?_ ?_ <;> intro _) | (refine bne_split ?_ ?_ <;> intro _) | (refine beq_split ?_ ?_ <;> intro _))
local macro_rules | `(tactic| walk_at "compareOp Eq ref ref") => `(tactic| (k_here; k_dflt (first
  | (refine' eq_T ?B ?C ?F ?X ?N ?u ?_; (case F => k_asm); (case X => k_asm); (case N => k_asm); (case B => (repeat (first | assumption | with_reducible exact Bears.here | exact finfB _ _ | exact fninfB _ _ | exact fzeroB _ _ | with_reducible refine Bears.cons ?_ | with_reducible refine Bears.app ?_))); (case C => (repeat (first | assumption | with_reducible exact Bears.here | exact finfB _ _ | exact fninfB _ _ | exact fzeroB _ _ | with_reducible refine Bears.cons ?_ | with_reducible refine Bears.app ?_))); (case u => ((try dsimp only [Around.deeper, Around.in1, ktrTop]); omega)); k_whole)
  | (refine' eqL_T ?B ?C ?F ?X ?N ?u ?_; (case F => k_asm); (case X => k_asm); (case N => k_asm); (case B => (repeat (first | assumption | with_reducible exact Bears.here | exact finfB _ _ | exact fninfB _ _ | exact fzeroB _ _ | with_reducible refine Bears.cons ?_ | with_reducible refine Bears.app ?_))); (case C => (repeat (first | assumption | with_reducible exact Bears.here | exact finfB _ _ | exact fninfB _ _ | exact fzeroB _ _ | with_reducible refine Bears.cons ?_ | with_reducible refine Bears.app ?_))); (case u => ((try dsimp only [Around.deeper, Around.in1, ktrTop]); omega)); k_whole))))
local macro_rules | `(tactic| walk_at "compareOp NotEq ref ref") => `(tactic| (k_here; k_dflt (refine' ne_T ?B ?C ?F ?X ?N ?u ?_; (case F => k_asm); (case X => k_asm); (case N => k_asm); (case B => (repeat (first | assumption | with_reducible exact Bears.here | exact finfB _ _ | exact fninfB _ _ | exact fzeroB _ _ | with_reducible refine Bears.cons ?_ | with_reducible refine Bears.app ?_))); (case C => (repeat (first | assumption | with_reducible exact Bears.here | exact finfB _ _ | exact fninfB _ _ | exact fzeroB _ _ | with_reducible refine Bears.cons ?_ | with_reducible refine Bears.app ?_))); (case u => ((try dsimp only [Around.deeper, Around.in1, ktrTop]); omega)); k_whole)))
local macro_rules | `(tactic| walk_at "subscriptTail") => `(tactic| (k_here; (with_reducible show wpAny _ _ (subscriptTail _ _ (Value.ref _) (Value.int _ _)) _ _ _); k_dflt (refine' item_T ?B ?F ?X ?N ?i ?x ?_ ?s; (case F => k_asm); (case X => k_asm); (case N => k_asm); (case B => (repeat (first | assumption | with_reducible exact Bears.here | exact finfB _ _ | exact fninfB _ _ | exact fzeroB _ _ | with_reducible refine Bears.cons ?_ | with_reducible refine Bears.app ?_))); (case i => omega); (case x => rfl); (case s => with_unfolding_all rfl); k_whole)))
local macro_rules | `(tactic| walk_at "binaryOp Pow int int") => `(tactic| ((with_reducible refine pow_T ?_ ?_ ?_ ?_); omega; omega; omega; intro _ _))
local macro_rules | `(tactic| walk_at "ite") => `(tactic| with_reducible first
  | (refine eqb_tt (by assumption) ?_) | (refine eqb_ff (by assumption) ?_) | (refine eqb_ff_e (by (dsimp only; omega)) ?_))
local macro_rules | `(tactic| walk_at "ite") => `(tactic| with_reducible first
  | (refine dec_tt (by omega) ?_) | (refine dec_ff (by omega) ?_) | (refine bne_tt (by omega) ?_) | (refine bne_ff (by omega) ?_) | (refine beq_tt (by omega) ?_) | (refine beq_ff (by omega) ?_) | (refine not_ite ?_))
local macro_rules | `(tactic| walk_at "eval Name") => `(tactic| (k_here; k_dflt (refine' name_G ?F ?X ?T ?e ?_ ?a ?b ?c; (case F => k_asm); (case X => k_asm); (case T => k_asm); (case e => k_is); (case b => kernel_rfl);  (case a => rfl); (case c => kernel_rfl); k_whole)))
local macro_rules | `(tactic| walk_at "eval Name") => `(tactic| (k_here; k_dflt (refine' name_T ?F ?v ?_ ?a ?b ?c; (case F => k_asm); (case v => (first | with_reducible exact look_here | with_reducible assumption | (simp only [ofString_eq, mapOf, String.reduceEq, ↓reduceIte] <;> first | rfl | with_reducible assumption))); (case b => kernel_rfl); (case a => rfl); (case c => kernel_rfl); k_whole)))
local macro_rules | `(tactic| walk_at "loadName") => `(tactic| (k_here; k_dflt (refine' loadn_T ?F ?v ?_ ?a ?b; (case F => k_asm); (case v => (first | with_reducible exact look_here | with_reducible assumption | (simp only [ofString_eq, mapOf, String.reduceEq, ↓reduceIte] <;> first | rfl | with_reducible assumption))); (case b => kernel_rfl); (case a => rfl); k_whole)))
local macro_rules | `(tactic| walk_at "exec If") => `(tactic| with_reducible refine wpAny_If ?_)
local macro_rules | `(tactic| walk_at "exec For Name Name cons nil") => `(tactic| (refine Stop.intro ?_))
local macro_rules | `(tactic| walk_at "exec For Name Call cons nil") => `(tactic| (refine Stop.intro ?_))
local macro_rules | `(tactic| walk_at "exec While Compare cons nil") => `(tactic| (refine Stop.intro ?_))
local macro_rules | `(tactic| walk_at "exec While BoolOp cons nil") => `(tactic| (refine Stop.intro ?_))
local macro_rules | `(tactic| walk_at "call builtin:isinstance") => `(tactic| (k_here; (with_reducible show wpAny _ _ (call (Value.builtin "isinstance") [Value.ref _, Value.type "tuple"]) _ _ _); k_dflt (refine' isi_T ?B ?F ?X ?N ?_; (case F => k_asm); (case X => k_asm); (case N => k_asm); (case B => (repeat (first | assumption | with_reducible exact Bears.here | exact finfB _ _ | exact fninfB _ _ | exact fzeroB _ _ | with_reducible refine Bears.cons ?_ | with_reducible refine Bears.app ?_))); k_whole)))
local macro_rules | `(tactic| walk_at "call builtin:len") => `(tactic| (k_here; (with_reducible show wpAny _ _ (call (Value.builtin "len") [Value.ref _]) _ _ _); k_dflt (refine' len_T ?B ?F ?X ?N ?_; (case F => k_asm); (case X => k_asm); (case N => k_asm); (case B => (repeat (first | assumption | with_reducible exact Bears.here | exact finfB _ _ | exact fninfB _ _ | exact fzeroB _ _ | with_reducible refine Bears.cons ?_ | with_reducible refine Bears.app ?_))); k_whole); intro _ _))
local macro_rules | `(tactic| walk_at "call builtin:divmod") => `(tactic| (k_here; k_dflt (refine' divmod_T ?F ?N ?b ?p ?_; (case F => k_asm); (case N => k_asm); (case b => first | with_reducible assumption | omega); (case p => with_reducible assumption); k_whole); intro h' r' t1' t2' tk' F' N'; (try k_sweep)))
local macro_rules | `(tactic| walk_at "inplaceOp FloorDiv int int") => `(tactic| ((with_reducible refine ifdiv_T ?_ ?_ ?_); decide; decide +kernel; intro _ _))
local macro_rules | `(tactic| walk_at "binaryOp Mod int int") => `(tactic| ((with_reducible refine mod_T ?_ ?_); omega; intro _ _))
local macro_rules | `(tactic| walk_at "call ref") => `(tactic| (k_here; (with_reducible show wpAny _ _ (call (Value.ref 52) _) _ _ _); k_dflt (refine' MGives.use (g_fme4 _ _ _ _ _ _) ?B ?F ?X ?N ?T ?hk ?hd ?hu ?_ ?mo; (case B => k_asm); (case F => k_asm); (case X => k_asm); (case N => k_asm); (case T => k_asm); (case hk => rfl); (case hd => ((try dsimp only [Around.deeper, Around.in1, ktrTop]); omega)); (case hu => ((try dsimp only [Around.deeper, Around.in1, ktrTop]); omega)); (case mo => exact fun _ _ _ hs ht => Tn.mono ht hs); k_whole); intro r' tl' h' tk' F' N' ho'; (obtain ⟨a', k1', k2', k3', k4', n', e', hB'⟩ := ho'); subst e'; (try dsimp only); (try k_sweep)))

/-- the values bear the numbers -/
def AllT (w : World) (news : List (Addr × Obj)) (low : Int) (vs : List Value) (us : List Int) : Prop :=
  vs.length = us.length ∧ ∀ (i : Nat) (v : Value) (u : Int), vs[i]? = some v → us[i]? = some u → Tn w news v (fm low u)
theorem AllT.tl {w : World} {news : List (Addr × Obj)} {low : Int} {vs : List Value} {us : List Int} {B : Addr} (h : AllT w news low vs us) : AllT w (tlf B news) low vs us := ⟨h.1, fun i v u a b => (h.2 i v u a b).tl⟩
theorem AllT.mono {w : World} {news news' : List (Addr × Obj)} {low : Int} {vs : List Value} {us : List Int} (h : AllT w news low vs us) (hs : ∀ q ∈ news, q ∈ news') : AllT w news' low vs us := ⟨h.1, fun i v u a b => (h.2 i v u a b).mono hs⟩
theorem AllT.get {w : World} {news : List (Addr × Obj)} {low : Int} {vs : List Value} {us : List Int} (h : AllT w news low vs us) {i : Nat} {v : Value} (hv : vs[i]? = some v) : ∃ u, us[i]? = some u ∧ Tn w news v (fm low u) := by
  have hi : i < us.length := by
    rw [← h.1]
    exact (List.getElem?_eq_some_iff.mp hv).1
  exact ⟨us[i], by simp [hi], h.2 i v _ hv (by simp [hi])⟩

structure SumJ (w : World) (base : List (Addr × Obj)) (low : Int) (vs : List Value) (us : List Int) (i : Nat) (m : Str → Option Value) (nx : List (Addr × Obj)) : Prop where
  st : ∃ M X t1 t2, m (Str.ofString "man") = some (.int M t1) ∧ m (Str.ofString "exp") = some (.int X t2) ∧ SumI low M X (us.take i).sum
  mx : ∃ t, m (Str.ofString "max_extra_prec") = some (.int 1000000 t)
  sp : m (Str.ofString "special") = some .none
  ab : m (Str.ofString "absolute") = some (.bool false)
  pr : ∃ t, m (Str.ofString "prec") = some (.int 0 t)
  rn : ∃ t, m (Str.ofString "rnd") = some (.str (Str.ofString "d") t)
  al : AllT w nx low vs us
  sub : ∀ q ∈ base, q ∈ nx

set_option maxHeartbeats 40000000 in
theorem g_sum {w : World} {news : List (Addr × Obj)} (l : Addr) (n : Nat) (vs : List Value) (us : List Int) (low : Int) (hl : (l, listOf vs.toArray n) ∈ news) (hv : AllT w news low vs us)
    (l0 : -100 ≤ low) (l1 : low ≤ 100) (hb : ∀ k, ((us.take k).sum).natAbs < 2 ^ 1000) (hus : ∀ u ∈ us, u.natAbs < 2 ^ 300) :
    MGives w 8 107 [.ref l] news (fun nn r => Tn w nn r (fm low us.sum)) := by
  refine MGives.intro ?_
  k_fill
  intro _ _
  unfold MGives
  intro p loose mean mg mb dp un gd cn cs a ccd cl outer A₀ base h₀ L m s Q E B F X N T hk hd hu hret
  refine wpAny_call ?_
  k_dflt (refine' code_def ?k1 ?k2 ?k3 ?k4 ?k5 ?kA ?kF ?kK ?k6 ?k7 ?k8 ?k9 ?kB ?_ ?c2 ?c3 ?c4 ?c5; (case kA => exact rfl); (case kF => exact rfl); (case kK => assumption); (case k1 => k_asm); (case k2 => k_asm); (case k3 => k_asm); (case k4 => k_asm); (case k5 => k_asm); (case k6 => k_is); (case k7 => k_is); (case k8 => ((try dsimp only [Around.deeper, Around.in1, ktrTop]); omega)); (case k9 => first | exact BindsTo.of_eq rfl | exact binds_K (by k_in) rfl (by k_is) rfl rfl rfl); (case c5 => decide); (case kB => exact locs rfl); (case c2 => exact rfl); (case c3 => exact rfl); (case c4 => exact rfl); k_whole; intro g₁ L₁ h₁ FG₁ F₁ N₁ B₁ X₁ T₁; (try dsimp only); (try k_fold))
  replace F₁ : Fr g₁ L₁ h₁ (mapOf [(Str.ofString "absolute", _), (Str.ofString "rnd", _), (Str.ofString "prec", _), (Str.ofString "xs", .ref l)]) := fr_lookup F₁
  k_steps
  unfold Stop
  rename Fr _ _ _ _ => F9
  rename News _ _ _ _ => N9
  (with_unfolding_all refine' For_invVF F9 ?k1 ?k2 ?_; (case k1 => exact rfl); (case k2 => exact rfl))
  walk1
  refine loop_list (SumJ w news low vs us) rfl hl F9 N9 ?_ ?_ ?_
  · exact ⟨⟨0, 0, _, _, by (first | with_reducible exact look_here | with_reducible assumption | (simp only [ofString_eq, mapOf, String.reduceEq, ↓reduceIte] <;> first | rfl | with_reducible assumption)), by (first | with_reducible exact look_here | with_reducible assumption | (simp only [ofString_eq, mapOf, String.reduceEq, ↓reduceIte] <;> first | rfl | with_reducible assumption)), by simpa using SumI.start⟩, ⟨_, by (first | with_reducible exact look_here | with_reducible assumption | (simp only [ofString_eq, mapOf, String.reduceEq, ↓reduceIte] <;> first | rfl | with_reducible assumption))⟩, by (first | with_reducible exact look_here | with_reducible assumption | (simp only [ofString_eq, mapOf, String.reduceEq, ↓reduceIte] <;> first | rfl | with_reducible assumption)), by (first | with_reducible exact look_here | with_reducible assumption | (simp only [ofString_eq, mapOf, String.reduceEq, ↓reduceIte] <;> first | rfl | with_reducible assumption)), ⟨_, by (first | with_reducible exact look_here | with_reducible assumption | (simp only [ofString_eq, mapOf, String.reduceEq, ↓reduceIte] <;> first | rfl | with_reducible assumption))⟩, ⟨_, by (first | with_reducible exact look_here | with_reducible assumption | (simp only [ofString_eq, mapOf, String.reduceEq, ↓reduceIte] <;> first | rfl | with_reducible assumption))⟩, hv, sub_refl⟩
  · clear N9 F9
    intro i v m₁ nx h₂ tk₂ own hi hJ hown F9 N9
    obtain ⟨⟨M, X₉, s1, s2, j1, j2, hS⟩, ⟨s3, j3⟩, j4, j5, ⟨s4, j6⟩, ⟨s5, j7⟩, hal, hsb⟩ := hJ
    obtain ⟨u, hui, htn⟩ := hal.get hi
    obtain ⟨va, u1, u2, u3, u4, un, rfl, hB⟩ := htn
    replace hB := hB.mono (news' := own ++ nx) fun _ hq => List.mem_append_right _ hq
    have hub := hus u (List.mem_of_getElem? hui)
    have hM := hS.bits l1 (hb i)
    have hx0 := hS.x0
    have hx1 := hS.x1
    have hfi := fm_is low u
    have hsum : (us.take (i + 1)).sum = (us.take i).sum + u := by rw [List.take_add_one, hui]; simp
    generalize fm low u = x at hB hfi
    have hblu : bl u.natAbs ≤ 300 := bl_le_of_lt hub
    have f1 := hfi.s
    have f2 := hfi.m
    have f3 := hfi.b
    have f4 := hfi.z
    have f5 : x.m = 0 ∨ (low ≤ x.e ∧ x.e ≤ 400) := by
      by_cases h0 : x.m = 0
      · exact .inl h0
      · have := hfi.e1 h0
        have := hfi.e2 h0
        right; omega
    have f6 := hfi.bb
    have f7 : Builtin.Int.intBits (-x.m) = Builtin.Int.intBits x.m := by rw [intBits_bl, intBits_bl, Int.natAbs_neg]
    have g1 : x.m ≠ 0 → x.s = 0 → x.m * 2 ^ (x.e - low).toNat = u := fun a b => by have := hfi.val a; rw [if_pos b] at this; exact this
    have g2 : x.m ≠ 0 → x.s ≠ 0 → -x.m * 2 ^ (x.e - low).toNat = u := fun a b => by have := hfi.val a; rw [if_neg b] at this; exact this
    have g3 : x.m = 0 → u = 0 := hfi.v0.mp
    show wpAny _ _ _ _ _ _
    k_fold
    k_steps
    all_goals show TurnEnd _ _ _ _ _ _ _ _ _
    all_goals refine TurnEnd.intro (by k_asm) (by k_asm) (fun p hp => List.mem_append_left _ hp) (fun B9 hB9 => ?_)
    all_goals refine ⟨⟨_, _, _, _, by (first | with_reducible exact look_here | with_reducible assumption | (simp only [ofString_eq, mapOf, String.reduceEq, ↓reduceIte] <;> first | rfl | with_reducible assumption)), by (first | with_reducible exact look_here | with_reducible assumption | (simp only [ofString_eq, mapOf, String.reduceEq, ↓reduceIte] <;> first | rfl | with_reducible assumption)), ?_⟩, ⟨_, by (first | with_reducible exact look_here | with_reducible assumption | (simp only [ofString_eq, mapOf, String.reduceEq, ↓reduceIte] <;> first | rfl | with_reducible assumption))⟩, by (first | with_reducible exact look_here | with_reducible assumption | (simp only [ofString_eq, mapOf, String.reduceEq, ↓reduceIte] <;> first | rfl | with_reducible assumption)), by (first | with_reducible exact look_here | with_reducible assumption | (simp only [ofString_eq, mapOf, String.reduceEq, ↓reduceIte] <;> first | rfl | with_reducible assumption)), ⟨_, by (first | with_reducible exact look_here | with_reducible assumption | (simp only [ofString_eq, mapOf, String.reduceEq, ↓reduceIte] <;> first | rfl | with_reducible assumption))⟩, ⟨_, by (first | with_reducible exact look_here | with_reducible assumption | (simp only [ofString_eq, mapOf, String.reduceEq, ↓reduceIte] <;> first | rfl | with_reducible assumption))⟩, (hal.mono fun _ hq => List.mem_append_right _ hq).tl, fun q hq => mem_tlf_old (List.mem_append_right _ (hsb q hq)) (hB9 q hq)⟩
    all_goals rw [hsum]
    all_goals first
      | exact hS.hi l0 (by omega) (by omega) (g1 (by with_reducible assumption) (by with_reducible assumption))
      | exact hS.hi l0 (by omega) (by omega) (g2 (by with_reducible assumption) (by with_reducible assumption))
      | exact hS.lo l0 (by omega) (by omega) (by omega) (g1 (by with_reducible assumption) (by with_reducible assumption))
      | exact hS.lo l0 (by omega) (by omega) (by omega) (g2 (by with_reducible assumption) (by with_reducible assumption))
      | (rw [g3 (by with_reducible assumption), Int.add_zero]; exact hS)
  · intro m₁ nx h₂ tk₂ hJ F9 N9
    obtain ⟨⟨M, X₉, s1, s2, j1, j2, hS⟩, ⟨s3, j3⟩, j4, j5, ⟨s4, j6⟩, ⟨s5, j7⟩, hal, hsb⟩ := hJ
    have hlen : us.take vs.length = us := by rw [hal.1]; simp
    rw [hlen] at hS
    (try dsimp only)
    show wpAny _ _ _ _ _ _
    (try k_fold)
    k_steps
    all_goals refine hret _ _ _ _ (by k_asm) (by k_asm) (sub_trans hsb sub_app) (Tn.of_bears (by with_reducible assumption) ?_)
    all_goals exact (hS.done l0).symm
end Mine

-- C9
set_option maxRecDepth 100000
namespace Mine
open PySem PySem.W PyProof.Rows PySem.Spec PySem.Calls
local macro_rules | `(tactic| walk_at "never 0") => `(tactic| fail "never")
local macro_rules | `(tactic| walk_at "never 1") => `(tactic| fail "never")
local macro_rules | `(tactic| walk_at "never 2") => `(tactic| fail "never")
local macro_rules | `(tactic| walk_at "never 3") => `(tactic| fail "never")
local macro_rules | `(tactic| walk_at "never 4") => `(tactic| fail "never")
local macro_rules | `(tactic| walk_at "never 5") => `(tactic| fail "never")
-- the walk's own lines: each step's token and heap named anew
local macro_rules | `(tactic| walk_at "binaryOp Add int int") => `(tactic| (with_reducible refine add_T ?_; intro _ _))
local macro_rules | `(tactic| walk_at "binaryOp Sub int int") => `(tactic| (with_reducible refine sub_T ?_; intro _ _))
local macro_rules | `(tactic| walk_at "binaryOp BitAnd int int") => `(tactic| (with_reducible refine and_T ?_; intro _ _))
local macro_rules | `(tactic| walk_at "binaryOp BitXor int int") => `(tactic| (with_reducible refine xor_T ?_; intro _ _))
local macro_rules | `(tactic| walk_at "inplaceOp Add int int") => `(tactic| (with_reducible refine iadd_T ?_; intro _ _))
local macro_rules | `(tactic| walk_at "inplaceOp Sub int int") => `(tactic| (with_reducible refine isub_T ?_; intro _ _))
local macro_rules | `(tactic| walk_at "inplaceOp BitXor int int") => `(tactic| (with_reducible refine ixor_T ?_; intro _ _))
local macro_rules | `(tactic| walk_at "binaryOp RShift int int") => `(tactic| ((with_reducible refine rsh_T ?_ ?_); omega; intro _ _))
local macro_rules | `(tactic| walk_at "inplaceOp RShift int int") => `(tactic| ((with_reducible refine irsh_T ?_ ?_); omega; intro _ _))
local macro_rules | `(tactic| walk_at "binaryOp LShift int int") => `(tactic| ((with_reducible refine lsh_T ?_ ?_ ?_); omega; (try simp only [bits_one]); omega; intro _ _))
local macro_rules | `(tactic| walk_at "inplaceOp LShift int int") => `(tactic| ((with_reducible refine ilsh_T ?_ ?_ ?_); omega; (try simp only [bits_one]); omega; intro _ _))
local macro_rules | `(tactic| walk_at "unaryOp USub int") => `(tactic| (with_reducible refine neg_T ?_; intro _ _))
local macro_rules | `(tactic| walk_at "call builtin:int.bit_length") => `(tactic| (with_reducible refine bits_T ?_; intro _ _))
local macro_rules | `(tactic| walk_at "eval Constant int") => `(tactic| (with_reducible refine const_T ?_; intro _ _))
local macro_rules | `(tactic| walk_at "storeName") => `(tactic| (k_here; k_dflt (refine' store_T ?F ?N ?_ ?a ?b; (case F => k_asm); (case N => k_asm); (case a => rfl); (case b => rfl); k_whole); intro h' tk' F' N'; (try k_sweep)))
local macro_rules | `(tactic| walk_at "newTuple") => `(tactic| (k_here; k_dflt (refine' tuple_T ?F ?N ?s ?_; (case F => k_asm); (case N => k_asm); (case s => decide); k_whole); intro h' r' F' N'; (try k_sweep)))
local macro_rules | `(tactic| walk_at "assign Tuple") => `(tactic| (k_here; (with_reducible show wpAny _ _ (assign (Expr.Tuple _ _ _) _ (Value.ref _)) _ _ _); k_dflt (refine' unpack_T ?B ?F ?X ?N ?a ?b ?c ?_; (case F => k_asm); (case X => k_asm); (case N => k_asm); (case B => (repeat (first | assumption | with_reducible exact Bears.here | exact finfB _ _ | exact fninfB _ _ | exact fzeroB _ _ | with_reducible refine Bears.cons ?_ | with_reducible refine Bears.app ?_))); (case a => rfl); (case b => rfl); (case c => rfl); k_whole); intro h' F' N'; (try k_sweep)))
local macro_rules | `(tactic| walk_at "ite") => `(tactic| with_reducible first
  | (refine dec_split ?_ ?_ <;> intro _) | (refine bne_split ?_ ?_ <;> intro _) | (refine beq_split ?_ ?_ <;> intro _))
local macro_rules | `(tactic| walk_at "compareOp Eq ref ref") => `(tactic| (k_here; k_dflt (first
  | (refine' eq_T ?B ?C ?F ?X ?N ?u ?_; (case F => k_asm); (case X => k_asm); (case N => k_asm); (case B => (repeat (first | assumption | with_reducible exact Bears.here | exact finfB _ _ | exact fninfB _ _ | exact fzeroB _ _ | with_reducible refine Bears.cons ?_ | with_reducible refine Bears.app ?_))); (case C => (repeat (first | assumption | with_reducible exact Bears.here | exact finfB _ _ | exact fninfB _ _ | exact fzeroB _ _ | with_reducible refine Bears.cons ?_ | with_reducible refine Bears.app ?_))); (case u => ((try dsimp only [Around.deeper, Around.in1, ktrTop]); omega)); k_whole)
  | (refine' eqL_T ?B ?C ?F ?X ?N ?u ?_; (case F => k_asm); (case X => k_asm); (case N => k_asm); (case B => (repeat (first | assumption | with_reducible exact Bears.here | exact finfB _ _ | exact fninfB _ _ | exact fzeroB _ _ | with_reducible refine Bears.cons ?_ | with_reducible refine Bears.app ?_))); (case C => (repeat (first | assumption | with_reducible exact Bears.here | exact finfB _ _ | exact fninfB _ _ | exact fzeroB _ _ | with_reducible refine Bears.cons ?_ | with_reducible refine Bears.app ?_))); (case u => ((try dsimp only [Around.deeper, Around.in1, ktrTop]); omega)); k_whole))))
local macro_rules | `(tactic| walk_at "compareOp NotEq ref ref") => `(tactic| (k_here; k_dflt (refine' ne_T ?B ?C ?F ?X ?N ?u ?_; (case F => k_asm); (case X => k_asm); (case N => k_asm); (case B => (repeat (first | assumption | with_reducible exact Bears.here | exact finfB _ _ | exact fninfB _ _ | exact fzeroB _ _ | with_reducible refine Bears.cons ?_ | with_reducible refine Bears.app ?_))); (case C => (repeat (first | assumption | with_reducible exact Bears.here | exact finfB _ _ | exact fninfB _ _ | exact fzeroB _ _ | with_reducible refine Bears.cons ?_ | with_reducible refine Bears.app ?_))); (case u => ((try dsimp only [Around.deeper, Around.in1, ktrTop]); omega)); k_whole)))
local macro_rules | `(tactic| walk_at "subscriptTail") => `(tactic| (k_here; (with_reducible show wpAny _ _ (subscriptTail _ _ (Value.ref _) (Value.int _ _)) _ _ _); k_dflt (refine' item_T ?B ?F ?X ?N ?i ?x ?_ ?s; (case F => k_asm); (case X => k_asm); (case N => k_asm); (case B => (repeat (first | assumption | with_reducible exact Bears.here | exact finfB _ _ | exact fninfB _ _ | exact fzeroB _ _ | with_reducible refine Bears.cons ?_ | with_reducible refine Bears.app ?_))); (case i => omega); (case x => rfl); (case s => with_unfolding_all rfl); k_whole)))
local macro_rules | `(tactic| walk_at "binaryOp Pow int int") => `(tactic| ((with_reducible refine pow_T ?_ ?_ ?_ ?_); omega; omega; omega; intro _ _))
local macro_rules | `(tactic| walk_at "ite") => `(tactic| with_reducible first
  | (refine eqb_tt (by assumption) ?_) | (refine eqb_ff (by assumption) ?_) | (refine eqb_ff_e (by (dsimp only; omega)) ?_))
local macro_rules | `(tactic| walk_at "ite") => `(tactic| with_reducible first
  | (refine dec_tt (by omega) ?_) | (refine dec_ff (by omega) ?_) | (refine bne_tt (by omega) ?_) | (refine bne_ff (by omega) ?_) | (refine beq_tt (by omega) ?_) | (refine beq_ff (by omega) ?_) | (refine not_ite ?_))
local macro_rules | `(tactic| walk_at "eval Name") => `(tactic| (k_here; k_dflt (refine' name_G ?F ?X ?T ?e ?_ ?a ?b ?c; (case F => k_asm); (case X => k_asm); (case T => k_asm); (case e => k_is); (case b => kernel_rfl);  (case a => rfl); (case c => kernel_rfl); k_whole)))
local macro_rules | `(tactic| walk_at "eval Name") => `(tactic| (k_here; k_dflt (refine' name_T ?F ?v ?_ ?a ?b ?c; (case F => k_asm); (case v => (first | with_reducible exact look_here | with_reducible assumption | (simp only [ofString_eq, mapOf, String.reduceEq, ↓reduceIte] <;> first | rfl | with_reducible assumption))); (case b => kernel_rfl); (case a => rfl); (case c => kernel_rfl); k_whole)))
local macro_rules | `(tactic| walk_at "loadName") => `(tactic| (k_here; k_dflt (refine' loadn_T ?F ?v ?_ ?a ?b; (case F => k_asm); (case v => (first | with_reducible exact look_here | with_reducible assumption | (simp only [ofString_eq, mapOf, String.reduceEq, ↓reduceIte] <;> first | rfl | with_reducible assumption))); (case b => kernel_rfl); (case a => rfl); k_whole)))
local macro_rules | `(tactic| walk_at "exec If") => `(tactic| with_reducible refine wpAny_If ?_)
local macro_rules | `(tactic| walk_at "exec For Name Name cons nil") => `(tactic| (refine Stop.intro ?_))
local macro_rules | `(tactic| walk_at "exec For Name Call cons nil") => `(tactic| (refine Stop.intro ?_))
local macro_rules | `(tactic| walk_at "exec While Compare cons nil") => `(tactic| (refine Stop.intro ?_))
local macro_rules | `(tactic| walk_at "exec While BoolOp cons nil") => `(tactic| (refine Stop.intro ?_))
local macro_rules | `(tactic| walk_at "call builtin:isinstance") => `(tactic| (k_here; (with_reducible show wpAny _ _ (call (Value.builtin "isinstance") [Value.ref _, Value.type "tuple"]) _ _ _); k_dflt (refine' isi_T ?B ?F ?X ?N ?_; (case F => k_asm); (case X => k_asm); (case N => k_asm); (case B => (repeat (first | assumption | with_reducible exact Bears.here | exact finfB _ _ | exact fninfB _ _ | exact fzeroB _ _ | with_reducible refine Bears.cons ?_ | with_reducible refine Bears.app ?_))); k_whole)))
local macro_rules | `(tactic| walk_at "call builtin:len") => `(tactic| (k_here; (with_reducible show wpAny _ _ (call (Value.builtin "len") [Value.ref _]) _ _ _); k_dflt (refine' len_T ?B ?F ?X ?N ?_; (case F => k_asm); (case X => k_asm); (case N => k_asm); (case B => (repeat (first | assumption | with_reducible exact Bears.here | exact finfB _ _ | exact fninfB _ _ | exact fzeroB _ _ | with_reducible refine Bears.cons ?_ | with_reducible refine Bears.app ?_))); k_whole); intro _ _))
local macro_rules | `(tactic| walk_at "call builtin:divmod") => `(tactic| (k_here; k_dflt (refine' divmod_T ?F ?N ?b ?p ?_; (case F => k_asm); (case N => k_asm); (case b => first | with_reducible assumption | omega); (case p => with_reducible assumption); k_whole); intro h' r' t1' t2' tk' F' N'; (try k_sweep)))
local macro_rules | `(tactic| walk_at "inplaceOp FloorDiv int int") => `(tactic| ((with_reducible refine ifdiv_T ?_ ?_ ?_); decide; decide +kernel; intro _ _))
local macro_rules | `(tactic| walk_at "binaryOp Mod int int") => `(tactic| ((with_reducible refine mod_T ?_ ?_); omega; intro _ _))
local macro_rules | `(tactic| walk_at "call ref") => `(tactic| (k_here; (with_reducible show wpAny _ _ (call (Value.ref 91) _) _ _ _); k_dflt (refine' MGives.use (g_add4 _ _ _ _ _ _ _ ?ta ?tb ?pH) ?B ?F ?X ?N ?T ?hk ?hd ?hu ?_ ?mo; (case B => k_asm); (case F => k_asm); (case X => k_asm); (case N => k_asm); (case T => k_asm); (case hk => rfl); (case hd => ((try dsimp only [Around.deeper, Around.in1, ktrTop]); omega)); (case hu => ((try dsimp only [Around.deeper, Around.in1, ktrTop]); omega)); (case mo => exact fun _ _ _ hs ht => Tn.mono ht hs); (case ta => first | with_reducible assumption | exact Tn.of_bears (by (repeat (first | with_reducible assumption | with_reducible exact Bears.here | with_reducible refine Bears.cons ?_ | with_reducible refine Bears.app ?_))) rfl); (case tb => first | with_reducible assumption | exact Tn.of_bears (by (repeat (first | with_reducible assumption | with_reducible exact Bears.here | with_reducible refine Bears.cons ?_ | with_reducible refine Bears.app ?_))) rfl); (case pH => first | with_reducible assumption | omega | (simp only [bits_one]; omega)); k_whole); intro r' tl' h' tk' F' N' ho'; (obtain ⟨a', k1', k2', k3', k4', n', e', hB'⟩ := ho'); subst e'; (try dsimp only); (try k_sweep)))
local macro_rules | `(tactic| walk_at "call ref") => `(tactic| (k_here; (with_reducible show wpAny _ _ (call (Value.ref 99) _) _ _ _); k_dflt (refine' MGives.use (g_sub _ _ _ _ _ _ _ ?ta ?tb ?pH) ?B ?F ?X ?N ?T ?hk ?hd ?hu ?_ ?mo; (case B => k_asm); (case F => k_asm); (case X => k_asm); (case N => k_asm); (case T => k_asm); (case hk => rfl); (case hd => ((try dsimp only [Around.deeper, Around.in1, ktrTop]); omega)); (case hu => ((try dsimp only [Around.deeper, Around.in1, ktrTop]); omega)); (case mo => exact fun _ _ _ hs ht => Tn.mono ht hs); (case ta => first | with_reducible assumption | exact Tn.of_bears (by (repeat (first | with_reducible assumption | with_reducible exact Bears.here | with_reducible refine Bears.cons ?_ | with_reducible refine Bears.app ?_))) rfl); (case tb => first | with_reducible assumption | exact Tn.of_bears (by (repeat (first | with_reducible assumption | with_reducible exact Bears.here | with_reducible refine Bears.cons ?_ | with_reducible refine Bears.app ?_))) rfl); (case pH => first | with_reducible assumption | omega | (simp only [bits_one]; omega)); k_whole); intro r' tl' h' tk' F' N' ho'; (obtain ⟨a', k1', k2', k3', k4', n', e', hB'⟩ := ho'); subst e'; (try dsimp only); (try k_sweep)))

/-- a pair of kept numbers -/
def PairT (w : World) (news : List (Addr × Obj)) (r : Value) (x y : T4) : Prop :=
  ∃ a v1 v2 n, r = .ref a ∧ Bears w news a { cls := .type "tuple", data := .seq #[v1, v2] n } ∧ Tn w news v1 x ∧ Tn w news v2 y
theorem PairT.mono {w : World} {news news' : List (Addr × Obj)} {r : Value} {x y : T4} (h : PairT w news r x y) (hs : ∀ q ∈ news, q ∈ news') : PairT w news' r x y :=
  let ⟨a, v1, v2, n, e, b, c, d⟩ := h
  ⟨a, v1, v2, n, e, b.mono hs, c.mono hs, d.mono hs⟩

set_option maxHeartbeats 40000000 in
theorem g_two {w : World} {news : List (Addr × Obj)} (v1 v2 : Value) (x y z1 z2 z3 z4 z5 z6 : T4) (pr : Int) (t1 : Tok) (h1 : Tn w news v1 x) (h2 : Tn w news v2 y)
    (H1 : AddOk x y pr 0) (e1 : pyAdd x y pr 0 = z1) (H2 : AddOk z1 x pr 1) (e2 : pyAdd z1 x pr 1 = z2) (H3 : AddOk z1 z2 pr 1) (e3 : pyAdd z1 z2 pr 1 = z3)
    (H4 : AddOk x z3 pr 1) (e4 : pyAdd x z3 pr 1 = z4) (H5 : AddOk y z2 pr 1) (e5 : pyAdd y z2 pr 1 = z5) (H6 : AddOk z4 z5 pr 0) (e6 : pyAdd z4 z5 pr 0 = z6) :
    MGives w 12 149 [v1, v2, .int pr t1] news (fun n r => PairT w n r z1 z6) := by
  subst e1 e2 e3 e4 e5 e6
  obtain ⟨va, u1, u2, u3, u4, un, rfl, hv⟩ := h1
  obtain ⟨vb, w1, w2, w3, w4, wn, rfl, hw⟩ := h2
  refine MGives.intro ?_
  k_fill
  intro _ _
  unfold MGives
  intro p loose mean mg mb dp un gd cn cs a ccd cl outer A₀ base h₀ L m s Q E B F X N T hk hd hu hret
  refine wpAny_call ?_
  k_dflt (refine' code_def ?k1 ?k2 ?k3 ?k4 ?k5 ?kA ?kF ?kK ?k6 ?k7 ?k8 ?k9 ?kB ?_ ?c2 ?c3 ?c4 ?c5; (case kA => exact rfl); (case kF => exact rfl); (case kK => assumption); (case k1 => k_asm); (case k2 => k_asm); (case k3 => k_asm); (case k4 => k_asm); (case k5 => k_asm); (case k6 => k_is); (case k7 => k_is); (case k8 => ((try dsimp only [Around.deeper, Around.in1, ktrTop]); omega)); (case k9 => first | exact BindsTo.of_eq rfl | exact binds_K (by k_in) rfl (by k_is) rfl rfl rfl); (case c5 => decide); (case kB => exact locs rfl); (case c2 => exact rfl); (case c3 => exact rfl); (case c4 => exact rfl); k_whole; intro g₁ L₁ h₁ FG₁ F₁ N₁ B₁ X₁ T₁; (try dsimp only); (try k_fold))
  replace F₁ : Fr g₁ L₁ h₁ (mapOf [(Str.ofString "p", .int pr t1), (Str.ofString "b", .ref vb), (Str.ofString "a", .ref va)]) := fr_lookup F₁
  k_steps
  all_goals exact hret _ _ _ _ (by k_asm) (by k_asm) (by intro q hq; simp only [List.mem_cons, List.mem_append, hq, true_or, or_true]) ⟨_, _, _, 0, rfl, Bears.here, Tn.of_bears (by repeat (first | with_reducible assumption | exact Bears.here | refine Bears.cons ?_ | refine Bears.app ?_)) rfl, Tn.of_bears (by repeat (first | with_reducible assumption | exact Bears.here | refine Bears.cons ?_ | refine Bears.app ?_)) rfl⟩
set_option maxHeartbeats 40000000 in
theorem g_whole {w : World} {news : List (Addr × Obj)} (v : Value) (low u : Int) (t1 : Tok) (h1 : Tn w news v (fm low u)) (l0 : -100 ≤ low) (l1 : low ≤ 100) (hb : u.natAbs < 2 ^ 1000) :
    MGivesP w 3 135 [v, .int low t1] news (fun r => ∃ tk, r = .int u tk) := by
  obtain ⟨va, u1, u2, u3, u4, un, rfl, hv⟩ := h1
  have hfi := fm_is low u
  have hbl : bl u.natAbs ≤ 1000 := bl_le_of_lt hb
  generalize fm low u = x at hv hfi
  have f1 := hfi.s
  have f2 := hfi.m
  have f3 := hfi.b
  have f4 := hfi.z
  have f5 : x.m = 0 ∨ (low ≤ x.e ∧ x.e ≤ 1100) := by
    by_cases h0 : x.m = 0
    · exact .inl h0
    · have := hfi.e1 h0
      have := hfi.e2 h0
      right; omega
  have f6 := hfi.bb
  refine MGives.intro ?_
  k_fill
  intro _ _
  unfold MGives
  intro p loose mean mg mb dp un gd cn cs a ccd cl outer A₀ base h₀ L m s Q E B F X N T hk hd hu hret
  refine wpAny_call ?_
  k_dflt (refine' code_def ?k1 ?k2 ?k3 ?k4 ?k5 ?kA ?kF ?kK ?k6 ?k7 ?k8 ?k9 ?kB ?_ ?c2 ?c3 ?c4 ?c5; (case kA => exact rfl); (case kF => exact rfl); (case kK => assumption); (case k1 => k_asm); (case k2 => k_asm); (case k3 => k_asm); (case k4 => k_asm); (case k5 => k_asm); (case k6 => k_is); (case k7 => k_is); (case k8 => ((try dsimp only [Around.deeper, Around.in1, ktrTop]); omega)); (case k9 => first | exact BindsTo.of_eq rfl | exact binds_K (by k_in) rfl (by k_is) rfl rfl rfl); (case c5 => decide); (case kB => exact locs rfl); (case c2 => exact rfl); (case c3 => exact rfl); (case c4 => exact rfl); k_whole; intro g₁ L₁ h₁ FG₁ F₁ N₁ B₁ X₁ T₁; (try dsimp only); (try k_fold))
  replace F₁ : Fr g₁ L₁ h₁ (mapOf [(Str.ofString "low", .int low t1), (Str.ofString "t", .ref va)]) := fr_lookup F₁
  k_steps
  all_goals refine hret _ _ _ _ (by k_asm) (by k_asm) sub_refl ?_
  · have e : u = 0 := hfi.v0.mp (by with_reducible assumption)
    subst e
    exact ⟨_, rfl⟩
  · have hn : x.m ≠ 0 := by with_reducible assumption
    have hs : x.s ≠ 0 := by with_reducible assumption
    have := hfi.val hn
    rw [if_neg hs, Int.neg_mul] at this
    exact ⟨_, by rw [this]⟩
  · have hn : x.m ≠ 0 := by with_reducible assumption
    have hs : x.s = 0 := by with_reducible assumption
    have := hfi.val hn
    rw [if_pos hs] at this
    exact ⟨_, by rw [this]⟩

/-- what a draw gives, the script being a list that stood before the law's call -/
def DrawGives (w : World) (need : Nat) (f : Addr) (vs : List Value) (news : List (Addr × Obj)) (l : Addr) (its : List Value) (Out : Value → Prop) : Prop :=
  ∀ (p : Program) (loose : List Str) (mean : ExcName → Option Value) (mg mb : Str → Option Value)
    (dp un : Nat) (gd : Option (List Code)) (cn : Str) (cs : Scope) (a : Addr) (ccd : Value) (cl : List (Str × Addr)) (outer : List Env) (A₀ : Around) (base h₀ : Heap) (L : Addr) (m : Str → Option Value) (s : Shared)
    (Q E : Value → Shared → Prop), base.IsList l its.toArray →
    Below A₀ base outer h₀ → Fr h₀ L s.heap m → (Mine.hd.heap_39 w.params).In h₀ → News h₀ L s.heap news → Top p loose mean mg mb h₀ → cs.kind = .function → dp + need < recursionLimit → un + 8 * need < cLine →
    (∀ r news' h' tk', Fr h₀ L h' m → News h₀ L h' news' → (∀ q ∈ news, q ∈ news') → Out r → Q r { s with heap := h', toks := tk' }) →
    wpAny (model PySem.Challenge.rw_aa5008_01.prog w) (ktrTop dp un gd cn cs L a ccd cl outer) (call (.ref f) vs) Q E s
theorem DrawGives.intro {w : World} {need : Nat} {f : Addr} {vs : List Value} {news : List (Addr × Obj)} {l : Addr} {its : List Value} {Out : Value → Prop}
    (h : PySem.Challenge.rw_aa5008_01 = PySem.Challenge.rw_aa5008_01 → Mine.hd.heap_39 w.params = Mine.hd.heap_39 w.params → DrawGives w need f vs news l its Out) : DrawGives w need f vs news l its Out := h rfl rfl
set_option maxHeartbeats 40000000 in
theorem g_draw {w : World} {news : List (Addr × Obj)} (l : Addr) (vs : List Value) (ns : List Int) (i n : Int) (t1 t2 : Tok) (hi : IntsAre vs ns) (hlen : ns.length ≤ 63) (i0 : 0 ≤ i) (i1 : i < 1000) (n0 : 0 < n) (n1 : n < 1000) :
    DrawGives w 3 121 [.ref l, .int i t1, .int n t2] news l vs (fun r => ∃ k tk, r = .int k tk ∧ 0 ≤ k ∧ k < n) := by
  refine DrawGives.intro ?_
  k_fill
  intro _ _
  unfold DrawGives
  intro p loose mean mg mb dp un gd cn cs a ccd cl outer A₀ base h₀ L m s Q E hL B F X N T hk hd hu hret
  refine wpAny_call ?_
  k_dflt (refine' code_def ?k1 ?k2 ?k3 ?k4 ?k5 ?kA ?kF ?kK ?k6 ?k7 ?k8 ?k9 ?kB ?_ ?c2 ?c3 ?c4 ?c5; (case kA => exact rfl); (case kF => exact rfl); (case kK => assumption); (case k1 => k_asm); (case k2 => k_asm); (case k3 => k_asm); (case k4 => k_asm); (case k5 => k_asm); (case k6 => k_is); (case k7 => k_is); (case k8 => ((try dsimp only [Around.deeper, Around.in1, ktrTop]); omega)); (case k9 => first | exact BindsTo.of_eq rfl | exact binds_K (by k_in) rfl (by k_is) rfl rfl rfl); (case c5 => decide); (case kB => exact locs rfl); (case c2 => exact rfl); (case c3 => exact rfl); (case c4 => exact rfl); k_whole; intro g₁ L₁ h₁ FG₁ F₁ N₁ B₁ X₁ T₁; (try dsimp only); (try k_fold))
  replace F₁ : Fr g₁ L₁ h₁ (mapOf [(Str.ofString "n", .int n t2), (Str.ofString "i", .int i t1), (Str.ofString "script", .ref l)]) := fr_lookup F₁
  have hLg : g₁.IsList l vs.toArray := by
    obtain ⟨o, ho, r⟩ := hL
    exact ⟨o, B₁.stays _ _ ho, r⟩
  k_steps
  all_goals exact hret _ _ _ _ (by k_asm) (by k_asm) sub_refl ⟨_, _, rfl, Int.fmod_nonneg_of_pos _ n0, Int.fmod_lt_of_pos _ n0⟩
end Mine

-- C10
set_option maxRecDepth 100000
namespace Mine
open PySem PySem.W PyProof.Rows PySem.Spec PySem.Calls
local macro_rules | `(tactic| walk_at "never 0") => `(tactic| fail "never")
local macro_rules | `(tactic| walk_at "never 1") => `(tactic| fail "never")
local macro_rules | `(tactic| walk_at "never 2") => `(tactic| fail "never")
local macro_rules | `(tactic| walk_at "never 3") => `(tactic| fail "never")
local macro_rules | `(tactic| walk_at "never 4") => `(tactic| fail "never")
local macro_rules | `(tactic| walk_at "never 5") => `(tactic| fail "never")
local macro_rules | `(tactic| walk_at "never 6") => `(tactic| fail "never")
local macro_rules | `(tactic| walk_at "never 7") => `(tactic| fail "never")
local macro_rules | `(tactic| walk_at "never 8") => `(tactic| fail "never")
-- the walk's own lines: each step's token and heap named anew
local macro_rules | `(tactic| walk_at "binaryOp Add int int") => `(tactic| (with_reducible refine add_T ?_; intro _ _))
local macro_rules | `(tactic| walk_at "binaryOp Sub int int") => `(tactic| (with_reducible refine sub_T ?_; intro _ _))
local macro_rules | `(tactic| walk_at "binaryOp BitAnd int int") => `(tactic| (with_reducible refine and_T ?_; intro _ _))
local macro_rules | `(tactic| walk_at "binaryOp BitXor int int") => `(tactic| (with_reducible refine xor_T ?_; intro _ _))
local macro_rules | `(tactic| walk_at "inplaceOp Add int int") => `(tactic| (with_reducible refine iadd_T ?_; intro _ _))
local macro_rules | `(tactic| walk_at "inplaceOp Sub int int") => `(tactic| (with_reducible refine isub_T ?_; intro _ _))
local macro_rules | `(tactic| walk_at "inplaceOp BitXor int int") => `(tactic| (with_reducible refine ixor_T ?_; intro _ _))
local macro_rules | `(tactic| walk_at "binaryOp RShift int int") => `(tactic| ((with_reducible refine rsh_T ?_ ?_); omega; intro _ _))
local macro_rules | `(tactic| walk_at "inplaceOp RShift int int") => `(tactic| ((with_reducible refine irsh_T ?_ ?_); omega; intro _ _))
local macro_rules | `(tactic| walk_at "binaryOp LShift int int") => `(tactic| ((with_reducible refine lsh_T ?_ ?_ ?_); omega; (try simp only [bits_one]); omega; intro _ _))
local macro_rules | `(tactic| walk_at "inplaceOp LShift int int") => `(tactic| ((with_reducible refine ilsh_T ?_ ?_ ?_); omega; (try simp only [bits_one]); omega; intro _ _))
local macro_rules | `(tactic| walk_at "unaryOp USub int") => `(tactic| (with_reducible refine neg_T ?_; intro _ _))
local macro_rules | `(tactic| walk_at "call builtin:int.bit_length") => `(tactic| (with_reducible refine bits_T ?_; intro _ _))
local macro_rules | `(tactic| walk_at "eval Constant int") => `(tactic| (with_reducible refine const_T ?_; intro _ _))
local macro_rules | `(tactic| walk_at "storeName") => `(tactic| (k_here; k_dflt (refine' store_T ?F ?N ?_ ?a ?b; (case F => k_asm); (case N => k_asm); (case a => rfl); (case b => rfl); k_whole); intro h' tk' F' N'; (try k_sweep)))
local macro_rules | `(tactic| walk_at "newTuple") => `(tactic| (k_here; k_dflt (refine' tuple_T ?F ?N ?s ?_; (case F => k_asm); (case N => k_asm); (case s => decide); k_whole); intro h' r' F' N'; (try k_sweep)))
local macro_rules | `(tactic| walk_at "assign Tuple") => `(tactic| (k_here; (with_reducible show wpAny _ _ (assign (Expr.Tuple _ _ _) _ (Value.ref _)) _ _ _); k_dflt (refine' unpack_T ?B ?F ?X ?N ?a ?b ?c ?_; (case F => k_asm); (case X => k_asm); (case N => k_asm); (case B => (repeat (first | assumption | with_reducible exact Bears.here | exact finfB _ _ | exact fninfB _ _ | exact fzeroB _ _ | with_reducible refine Bears.cons ?_ | with_reducible refine Bears.app ?_))); (case a => rfl); (case b => rfl); (case c => rfl); k_whole); intro h' F' N'; (try k_sweep)))
local macro_rules | `(tactic| walk_at "ite") => `(tactic| with_reducible first
  | (refine dec_split ?_ ?_ <;> intro _) | (refine bne_split ?_ ?_ <;> intro _) | (refine beq_split ?_ ?_ <;> intro _))
local macro_rules | `(tactic| walk_at "compareOp Eq ref ref") => `(tactic| (k_here; k_dflt (first
  | (refine' eq_T ?B ?C ?F ?X ?N ?u ?_; (case F => k_asm); (case X => k_asm); (case N => k_asm); (case B => (repeat (first | assumption | with_reducible exact Bears.here | exact finfB _ _ | exact fninfB _ _ | exact fzeroB _ _ | with_reducible refine Bears.cons ?_ | with_reducible refine Bears.app ?_))); (case C => (repeat (first | assumption | with_reducible exact Bears.here | exact finfB _ _ | exact fninfB _ _ | exact fzeroB _ _ | with_reducible refine Bears.cons ?_ | with_reducible refine Bears.app ?_))); (case u => ((try dsimp only [Around.deeper, Around.in1, ktrTop]); omega)); k_whole)
  | (refine' eqL_T ?B ?C ?F ?X ?N ?u ?_; (case F => k_asm); (case X => k_asm); (case N => k_asm); (case B => (repeat (first | assumption | with_reducible exact Bears.here | exact finfB _ _ | exact fninfB _ _ | exact fzeroB _ _ | with_reducible refine Bears.cons ?_ | with_reducible refine Bears.app ?_))); (case C => (repeat (first | assumption | with_reducible exact Bears.here | exact finfB _ _ | exact fninfB _ _ | exact fzeroB _ _ | with_reducible refine Bears.cons ?_ | with_reducible refine Bears.app ?_))); (case u => ((try dsimp only [Around.deeper, Around.in1, ktrTop]); omega)); k_whole))))
local macro_rules | `(tactic| walk_at "compareOp NotEq ref ref") => `(tactic| (k_here; k_dflt (refine' ne_T ?B ?C ?F ?X ?N ?u ?_; (case F => k_asm); (case X => k_asm); (case N => k_asm); (case B => (repeat (first | assumption | with_reducible exact Bears.here | exact finfB _ _ | exact fninfB _ _ | exact fzeroB _ _ | with_reducible refine Bears.cons ?_ | with_reducible refine Bears.app ?_))); (case C => (repeat (first | assumption | with_reducible exact Bears.here | exact finfB _ _ | exact fninfB _ _ | exact fzeroB _ _ | with_reducible refine Bears.cons ?_ | with_reducible refine Bears.app ?_))); (case u => ((try dsimp only [Around.deeper, Around.in1, ktrTop]); omega)); k_whole)))
local macro_rules | `(tactic| walk_at "subscriptTail") => `(tactic| (k_here; (with_reducible show wpAny _ _ (subscriptTail _ _ (Value.ref _) (Value.int _ _)) _ _ _); k_dflt (refine' item_T ?B ?F ?X ?N ?i ?x ?_ ?s; (case F => k_asm); (case X => k_asm); (case N => k_asm); (case B => (repeat (first | assumption | with_reducible exact Bears.here | exact finfB _ _ | exact fninfB _ _ | exact fzeroB _ _ | with_reducible refine Bears.cons ?_ | with_reducible refine Bears.app ?_))); (case i => omega); (case x => rfl); (case s => with_unfolding_all rfl); k_whole)))
local macro_rules | `(tactic| walk_at "binaryOp Pow int int") => `(tactic| ((with_reducible refine pow_T ?_ ?_ ?_ ?_); omega; omega; omega; intro _ _))
local macro_rules | `(tactic| walk_at "ite") => `(tactic| with_reducible first
  | (refine eqb_tt (by assumption) ?_) | (refine eqb_ff (by assumption) ?_) | (refine eqb_ff_e (by (dsimp only; omega)) ?_))
local macro_rules | `(tactic| walk_at "ite") => `(tactic| with_reducible first
  | (refine dec_tt (by omega) ?_) | (refine dec_ff (by omega) ?_) | (refine bne_tt (by omega) ?_) | (refine bne_ff (by omega) ?_) | (refine beq_tt (by omega) ?_) | (refine beq_ff (by omega) ?_) | (refine not_ite ?_))
local macro_rules | `(tactic| walk_at "eval Name") => `(tactic| (k_here; k_dflt (refine' name_G ?F ?X ?T ?e ?_ ?a ?b ?c; (case F => k_asm); (case X => k_asm); (case T => k_asm); (case e => k_is); (case b => kernel_rfl);  (case a => rfl); (case c => kernel_rfl); k_whole)))
local macro_rules | `(tactic| walk_at "eval Name") => `(tactic| (k_here; k_dflt (refine' name_T ?F ?v ?_ ?a ?b ?c; (case F => k_asm); (case v => (first | with_reducible exact look_here | with_reducible assumption | (simp only [ofString_eq, mapOf, String.reduceEq, ↓reduceIte] <;> first | rfl | with_reducible assumption))); (case b => kernel_rfl); (case a => rfl); (case c => kernel_rfl); k_whole)))
local macro_rules | `(tactic| walk_at "loadName") => `(tactic| (k_here; k_dflt (refine' loadn_T ?F ?v ?_ ?a ?b; (case F => k_asm); (case v => (first | with_reducible exact look_here | with_reducible assumption | (simp only [ofString_eq, mapOf, String.reduceEq, ↓reduceIte] <;> first | rfl | with_reducible assumption))); (case b => kernel_rfl); (case a => rfl); k_whole)))
local macro_rules | `(tactic| walk_at "exec If") => `(tactic| with_reducible refine wpAny_If ?_)
local macro_rules | `(tactic| walk_at "exec For Name Name cons nil") => `(tactic| (refine Stop.intro ?_))
local macro_rules | `(tactic| walk_at "exec For Name Call cons nil") => `(tactic| (refine Stop.intro ?_))
local macro_rules | `(tactic| walk_at "exec While Compare cons nil") => `(tactic| (refine Stop.intro ?_))
local macro_rules | `(tactic| walk_at "exec While BoolOp cons nil") => `(tactic| (refine Stop.intro ?_))
local macro_rules | `(tactic| walk_at "call builtin:isinstance") => `(tactic| (k_here; (with_reducible show wpAny _ _ (call (Value.builtin "isinstance") [Value.ref _, Value.type "tuple"]) _ _ _); k_dflt (refine' isi_T ?B ?F ?X ?N ?_; (case F => k_asm); (case X => k_asm); (case N => k_asm); (case B => (repeat (first | assumption | with_reducible exact Bears.here | exact finfB _ _ | exact fninfB _ _ | exact fzeroB _ _ | with_reducible refine Bears.cons ?_ | with_reducible refine Bears.app ?_))); k_whole)))
local macro_rules | `(tactic| walk_at "call builtin:len") => `(tactic| (k_here; (with_reducible show wpAny _ _ (call (Value.builtin "len") [Value.ref _]) _ _ _); k_dflt (refine' len_T ?B ?F ?X ?N ?_; (case F => k_asm); (case X => k_asm); (case N => k_asm); (case B => (repeat (first | assumption | with_reducible exact Bears.here | exact finfB _ _ | exact fninfB _ _ | exact fzeroB _ _ | with_reducible refine Bears.cons ?_ | with_reducible refine Bears.app ?_))); k_whole); intro _ _))
local macro_rules | `(tactic| walk_at "call builtin:divmod") => `(tactic| (k_here; k_dflt (refine' divmod_T ?F ?N ?b ?p ?_; (case F => k_asm); (case N => k_asm); (case b => first | with_reducible assumption | omega); (case p => with_reducible assumption); k_whole); intro h' r' t1' t2' tk' F' N'; (try k_sweep)))
local macro_rules | `(tactic| walk_at "inplaceOp FloorDiv int int") => `(tactic| ((with_reducible refine ifdiv_T ?_ ?_ ?_); decide; decide +kernel; intro _ _))
local macro_rules | `(tactic| walk_at "binaryOp Mod int int") => `(tactic| ((with_reducible refine mod_T ?_ ?_); omega; intro _ _))

structure FormJ (base : List (Addr × Obj)) (va : Addr) (pr low : Int) (i : Nat) (m : Str → Option Value) (nx : List (Addr × Obj)) : Prop where
  t : m (Str.ofString "t") = some (.ref va)
  p : ∃ t, m (Str.ofString "p") = some (.int pr t)
  l : ∃ t, m (Str.ofString "low") = some (.int low t)
  sub : ∀ q ∈ base, q ∈ nx
set_option maxHeartbeats 40000000 in
theorem g_form {w : World} {news : List (Addr × Obj)} (v : Value) (low u pr : Int) (t1 t2 : Tok) (h1 : Tn w news v (fm low u)) (l0 : -100 ≤ low) (l1 : low ≤ 100) (hb : u.natAbs < 2 ^ 1000) (hp : (bl (od u.natAbs) : Nat) ≤ pr) :
    MGivesP w 20 128 [v, .int pr t1, .int low t2] news (fun r => r = .bool true) := by
  obtain ⟨va, u1, u2, u3, u4, un, rfl, hv⟩ := h1
  have hfi := fm_is low u
  have hbl : bl u.natAbs ≤ 1000 := bl_le_of_lt hb
  generalize fm low u = x at hv hfi
  have f1 := hfi.s
  have f2 := hfi.m
  have f3 := hfi.b
  have f4 := hfi.z
  have f5 : x.m = 0 ∨ (low ≤ x.e ∧ x.e ≤ 1100) := by
    by_cases h0 : x.m = 0
    · exact .inl h0
    · have := hfi.e1 h0
      have := hfi.e2 h0
      right; omega
  have f6 := hfi.bb
  have f7 := hfi.bo
  have f8 := hfi.od2
  refine MGives.intro ?_
  k_fill
  intro _ _
  unfold MGives
  intro p loose mean mg mb dp un gd cn cs a ccd cl outer A₀ base h₀ L m s Q E B F X N T hk hd hu hret
  refine wpAny_call ?_
  k_dflt (refine' code_def ?k1 ?k2 ?k3 ?k4 ?k5 ?kA ?kF ?kK ?k6 ?k7 ?k8 ?k9 ?kB ?_ ?c2 ?c3 ?c4 ?c5; (case kA => exact rfl); (case kF => exact rfl); (case kK => assumption); (case k1 => k_asm); (case k2 => k_asm); (case k3 => k_asm); (case k4 => k_asm); (case k5 => k_asm); (case k6 => k_is); (case k7 => k_is); (case k8 => ((try dsimp only [Around.deeper, Around.in1, ktrTop]); omega)); (case k9 => first | exact BindsTo.of_eq rfl | exact binds_K (by k_in) rfl (by k_is) rfl rfl rfl); (case c5 => decide); (case kB => exact locs rfl); (case c2 => exact rfl); (case c3 => exact rfl); (case c4 => exact rfl); k_whole; intro g₁ L₁ h₁ FG₁ F₁ N₁ B₁ X₁ T₁; (try dsimp only); (try k_fold))
  replace F₁ : Fr g₁ L₁ h₁ (mapOf [(Str.ofString "low", .int low t2), (Str.ofString "p", .int pr t1), (Str.ofString "t", .ref va)]) := fr_lookup F₁
  k_steps
  unfold Stop
  rename Fr _ _ _ _ => F9
  rename News _ _ _ _ => N9
  (with_unfolding_all refine' For_invVF F9 ?k1 ?k2 ?_; (case k1 => exact rfl); (case k2 => exact rfl))
  walk1
  refine loop_tuple (FormJ news va pr low) rfl hv F9 X₁ N9 ?_ ?_ ?_
  · exact ⟨by (first | with_reducible exact look_here | with_reducible assumption | (simp only [ofString_eq, mapOf, String.reduceEq, ↓reduceIte] <;> first | rfl | with_reducible assumption)), ⟨_, by (first | with_reducible exact look_here | with_reducible assumption | (simp only [ofString_eq, mapOf, String.reduceEq, ↓reduceIte] <;> first | rfl | with_reducible assumption))⟩, ⟨_, by (first | with_reducible exact look_here | with_reducible assumption | (simp only [ofString_eq, mapOf, String.reduceEq, ↓reduceIte] <;> first | rfl | with_reducible assumption))⟩, sub_refl⟩
  · clear N9 F9
    intro i z tz m₁ nx h₂ tk₂ own hJ F9 N9
    obtain ⟨j1, ⟨s2, j2⟩, ⟨s3, j3⟩, hsb⟩ := hJ
    show wpAny _ _ _ _ _ _
    k_fold
    k_steps
    all_goals show TurnEnd _ _ _ _ _ _ _ _ _
    all_goals exact TurnEnd.intro (by k_asm) (by k_asm) (fun p hp => List.mem_append_left _ hp) (fun B9 hB9 => ⟨by (first | with_reducible exact look_here | with_reducible assumption | (simp only [ofString_eq, mapOf, String.reduceEq, ↓reduceIte] <;> first | rfl | with_reducible assumption)), ⟨_, by (first | with_reducible exact look_here | with_reducible assumption | (simp only [ofString_eq, mapOf, String.reduceEq, ↓reduceIte] <;> first | rfl | with_reducible assumption))⟩, ⟨_, by (first | with_reducible exact look_here | with_reducible assumption | (simp only [ofString_eq, mapOf, String.reduceEq, ↓reduceIte] <;> first | rfl | with_reducible assumption))⟩, fun q hq => mem_tlf_old (List.mem_append_right _ (hsb q hq)) (hB9 q hq)⟩)
  · intro m₁ nx h₂ tk₂ hJ F9 N9
    obtain ⟨j1, ⟨s2, j2⟩, ⟨s3, j3⟩, hsb⟩ := hJ
    replace hv := hv.mono hsb
    (try dsimp only)
    show wpAny _ _ _ _ _ _
    (try k_fold)
    k_steps
    all_goals (refine hret _ _ _ _ (by k_asm) (by k_asm) (by first | exact hsb | exact fun q hq => List.mem_cons_of_mem _ (hsb q hq)) (congrArg Value.bool ?_))
    all_goals first
      | exact decide_eq_true (by omega)
      | exact beq_iff_eq.mpr (by omega)
      | (rcases f1 with e | e <;> rw [e] <;> rfl)
      | (rw [hfi.zero (by with_reducible assumption)]; rfl)
end Mine

-- C11
set_option maxRecDepth 100000
namespace Mine
open PySem PySem.W PyProof.Rows PySem.Spec PySem.Calls
local macro_rules | `(tactic| walk_at "never 0") => `(tactic| fail "never")
local macro_rules | `(tactic| walk_at "never 1") => `(tactic| fail "never")
local macro_rules | `(tactic| walk_at "never 2") => `(tactic| fail "never")
local macro_rules | `(tactic| walk_at "never 3") => `(tactic| fail "never")
local macro_rules | `(tactic| walk_at "never 4") => `(tactic| fail "never")
local macro_rules | `(tactic| walk_at "never 5") => `(tactic| fail "never")
local macro_rules | `(tactic| walk_at "never 6") => `(tactic| fail "never")
local macro_rules | `(tactic| walk_at "never 7") => `(tactic| fail "never")
local macro_rules | `(tactic| walk_at "never 8") => `(tactic| fail "never")
local macro_rules | `(tactic| walk_at "never 9") => `(tactic| fail "never")
-- the walk's own lines: each step's token and heap named anew
local macro_rules | `(tactic| walk_at "binaryOp Add int int") => `(tactic| (with_reducible refine add_T ?_; intro _ _))
local macro_rules | `(tactic| walk_at "binaryOp Sub int int") => `(tactic| (with_reducible refine sub_T ?_; intro _ _))
local macro_rules | `(tactic| walk_at "binaryOp BitAnd int int") => `(tactic| (with_reducible refine and_T ?_; intro _ _))
local macro_rules | `(tactic| walk_at "binaryOp BitXor int int") => `(tactic| (with_reducible refine xor_T ?_; intro _ _))
local macro_rules | `(tactic| walk_at "inplaceOp Add int int") => `(tactic| (with_reducible refine iadd_T ?_; intro _ _))
local macro_rules | `(tactic| walk_at "inplaceOp Sub int int") => `(tactic| (with_reducible refine isub_T ?_; intro _ _))
local macro_rules | `(tactic| walk_at "inplaceOp BitXor int int") => `(tactic| (with_reducible refine ixor_T ?_; intro _ _))
local macro_rules | `(tactic| walk_at "binaryOp RShift int int") => `(tactic| ((with_reducible refine rsh_T ?_ ?_); omega; intro _ _))
local macro_rules | `(tactic| walk_at "inplaceOp RShift int int") => `(tactic| ((with_reducible refine irsh_T ?_ ?_); omega; intro _ _))
local macro_rules | `(tactic| walk_at "binaryOp LShift int int") => `(tactic| ((with_reducible refine lsh_T ?_ ?_ ?_); omega; (try simp only [bits_one]); omega; intro _ _))
local macro_rules | `(tactic| walk_at "inplaceOp LShift int int") => `(tactic| ((with_reducible refine ilsh_T ?_ ?_ ?_); omega; (try simp only [bits_one]); omega; intro _ _))
local macro_rules | `(tactic| walk_at "unaryOp USub int") => `(tactic| (with_reducible refine neg_T ?_; intro _ _))
local macro_rules | `(tactic| walk_at "call builtin:int.bit_length") => `(tactic| (with_reducible refine bits_T ?_; intro _ _))
local macro_rules | `(tactic| walk_at "eval Constant int") => `(tactic| (with_reducible refine const_T ?_; intro _ _))
local macro_rules | `(tactic| walk_at "storeName") => `(tactic| (k_here; k_dflt (refine' store_T ?F ?N ?_ ?a ?b; (case F => k_asm); (case N => k_asm); (case a => rfl); (case b => rfl); k_whole); intro h' tk' F' N'; (try k_sweep)))
local macro_rules | `(tactic| walk_at "newTuple") => `(tactic| (k_here; k_dflt (refine' tuple_T ?F ?N ?s ?_; (case F => k_asm); (case N => k_asm); (case s => decide); k_whole); intro h' r' F' N'; (try k_sweep)))
local macro_rules | `(tactic| walk_at "assign Tuple") => `(tactic| (k_here; (with_reducible show wpAny _ _ (assign (Expr.Tuple _ _ _) _ (Value.ref _)) _ _ _); k_dflt (refine' unpack_T ?B ?F ?X ?N ?a ?b ?c ?_; (case F => k_asm); (case X => k_asm); (case N => k_asm); (case B => (repeat (first | assumption | with_reducible exact Bears.here | exact finfB _ _ | exact fninfB _ _ | exact fzeroB _ _ | with_reducible refine Bears.cons ?_ | with_reducible refine Bears.app ?_))); (case a => rfl); (case b => rfl); (case c => rfl); k_whole); intro h' F' N'; (try k_sweep)))
local macro_rules | `(tactic| walk_at "ite") => `(tactic| with_reducible first
  | (refine dec_split ?_ ?_ <;> intro _) | (refine bne_split ?_ ?_ <;> intro _) | (refine beq_split ?_ ?_ <;> intro _))
local macro_rules | `(tactic| walk_at "compareOp Eq ref ref") => `(tactic| (k_here; k_dflt (first
  | (refine' eq_T ?B ?C ?F ?X ?N ?u ?_; (case F => k_asm); (case X => k_asm); (case N => k_asm); (case B => (repeat (first | assumption | with_reducible exact Bears.here | exact finfB _ _ | exact fninfB _ _ | exact fzeroB _ _ | with_reducible refine Bears.cons ?_ | with_reducible refine Bears.app ?_))); (case C => (repeat (first | assumption | with_reducible exact Bears.here | exact finfB _ _ | exact fninfB _ _ | exact fzeroB _ _ | with_reducible refine Bears.cons ?_ | with_reducible refine Bears.app ?_))); (case u => ((try dsimp only [Around.deeper, Around.in1, ktrTop]); omega)); k_whole)
  | (refine' eqL_T ?B ?C ?F ?X ?N ?u ?_; (case F => k_asm); (case X => k_asm); (case N => k_asm); (case B => (repeat (first | assumption | with_reducible exact Bears.here | exact finfB _ _ | exact fninfB _ _ | exact fzeroB _ _ | with_reducible refine Bears.cons ?_ | with_reducible refine Bears.app ?_))); (case C => (repeat (first | assumption | with_reducible exact Bears.here | exact finfB _ _ | exact fninfB _ _ | exact fzeroB _ _ | with_reducible refine Bears.cons ?_ | with_reducible refine Bears.app ?_))); (case u => ((try dsimp only [Around.deeper, Around.in1, ktrTop]); omega)); k_whole))))
local macro_rules | `(tactic| walk_at "compareOp NotEq ref ref") => `(tactic| (k_here; k_dflt (refine' ne_T ?B ?C ?F ?X ?N ?u ?_; (case F => k_asm); (case X => k_asm); (case N => k_asm); (case B => (repeat (first | assumption | with_reducible exact Bears.here | exact finfB _ _ | exact fninfB _ _ | exact fzeroB _ _ | with_reducible refine Bears.cons ?_ | with_reducible refine Bears.app ?_))); (case C => (repeat (first | assumption | with_reducible exact Bears.here | exact finfB _ _ | exact fninfB _ _ | exact fzeroB _ _ | with_reducible refine Bears.cons ?_ | with_reducible refine Bears.app ?_))); (case u => ((try dsimp only [Around.deeper, Around.in1, ktrTop]); omega)); k_whole)))
local macro_rules | `(tactic| walk_at "subscriptTail") => `(tactic| (k_here; (with_reducible show wpAny _ _ (subscriptTail _ _ (Value.ref _) (Value.int _ _)) _ _ _); k_dflt (refine' item_T ?B ?F ?X ?N ?i ?x ?_ ?s; (case F => k_asm); (case X => k_asm); (case N => k_asm); (case B => (repeat (first | assumption | with_reducible exact Bears.here | exact finfB _ _ | exact fninfB _ _ | exact fzeroB _ _ | with_reducible refine Bears.cons ?_ | with_reducible refine Bears.app ?_))); (case i => omega); (case x => rfl); (case s => with_unfolding_all rfl); k_whole)))
local macro_rules | `(tactic| walk_at "binaryOp Pow int int") => `(tactic| ((with_reducible refine pow_T ?_ ?_ ?_ ?_); omega; omega; omega; intro _ _))
local macro_rules | `(tactic| walk_at "ite") => `(tactic| with_reducible first
  | (refine eqb_tt (by assumption) ?_) | (refine eqb_ff (by assumption) ?_) | (refine eqb_ff_e (by (dsimp only; omega)) ?_))
local macro_rules | `(tactic| walk_at "ite") => `(tactic| with_reducible first
  | (refine dec_tt (by omega) ?_) | (refine dec_ff (by omega) ?_) | (refine bne_tt (by omega) ?_) | (refine bne_ff (by omega) ?_) | (refine beq_tt (by omega) ?_) | (refine beq_ff (by omega) ?_) | (refine not_ite ?_))
local macro_rules | `(tactic| walk_at "eval Name") => `(tactic| (k_here; k_dflt (refine' name_G ?F ?X ?T ?e ?_ ?a ?b ?c; (case F => k_asm); (case X => k_asm); (case T => k_asm); (case e => k_is); (case b => kernel_rfl);  (case a => rfl); (case c => kernel_rfl); k_whole)))
local macro_rules | `(tactic| walk_at "eval Name") => `(tactic| (k_here; k_dflt (refine' name_T ?F ?v ?_ ?a ?b ?c; (case F => k_asm); (case v => (first | with_reducible exact look_here | with_reducible assumption | (simp only [ofString_eq, mapOf, String.reduceEq, ↓reduceIte] <;> first | rfl | with_reducible assumption))); (case b => kernel_rfl); (case a => rfl); (case c => kernel_rfl); k_whole)))
local macro_rules | `(tactic| walk_at "loadName") => `(tactic| (k_here; k_dflt (refine' loadn_T ?F ?v ?_ ?a ?b; (case F => k_asm); (case v => (first | with_reducible exact look_here | with_reducible assumption | (simp only [ofString_eq, mapOf, String.reduceEq, ↓reduceIte] <;> first | rfl | with_reducible assumption))); (case b => kernel_rfl); (case a => rfl); k_whole)))
local macro_rules | `(tactic| walk_at "exec If") => `(tactic| with_reducible refine wpAny_If ?_)
local macro_rules | `(tactic| walk_at "exec For Name Name cons nil") => `(tactic| (refine Stop.intro ?_))
local macro_rules | `(tactic| walk_at "exec For Name Call cons nil") => `(tactic| (refine Stop.intro ?_))
local macro_rules | `(tactic| walk_at "exec While Compare cons nil") => `(tactic| (refine Stop.intro ?_))
local macro_rules | `(tactic| walk_at "exec While BoolOp cons nil") => `(tactic| (refine Stop.intro ?_))
local macro_rules | `(tactic| walk_at "call builtin:isinstance") => `(tactic| (k_here; (with_reducible show wpAny _ _ (call (Value.builtin "isinstance") [Value.ref _, Value.type "tuple"]) _ _ _); k_dflt (refine' isi_T ?B ?F ?X ?N ?_; (case F => k_asm); (case X => k_asm); (case N => k_asm); (case B => (repeat (first | assumption | with_reducible exact Bears.here | exact finfB _ _ | exact fninfB _ _ | exact fzeroB _ _ | with_reducible refine Bears.cons ?_ | with_reducible refine Bears.app ?_))); k_whole)))
local macro_rules | `(tactic| walk_at "call builtin:len") => `(tactic| (k_here; (with_reducible show wpAny _ _ (call (Value.builtin "len") [Value.ref _]) _ _ _); k_dflt (refine' len_T ?B ?F ?X ?N ?_; (case F => k_asm); (case X => k_asm); (case N => k_asm); (case B => (repeat (first | assumption | with_reducible exact Bears.here | exact finfB _ _ | exact fninfB _ _ | exact fzeroB _ _ | with_reducible refine Bears.cons ?_ | with_reducible refine Bears.app ?_))); k_whole); intro _ _))
local macro_rules | `(tactic| walk_at "call builtin:divmod") => `(tactic| (k_here; k_dflt (refine' divmod_T ?F ?N ?b ?p ?_; (case F => k_asm); (case N => k_asm); (case b => first | with_reducible assumption | omega); (case p => with_reducible assumption); k_whole); intro h' r' t1' t2' tk' F' N'; (try k_sweep)))
local macro_rules | `(tactic| walk_at "inplaceOp FloorDiv int int") => `(tactic| ((with_reducible refine ifdiv_T ?_ ?_ ?_); decide; decide +kernel; intro _ _))
local macro_rules | `(tactic| walk_at "binaryOp Mod int int") => `(tactic| ((with_reducible refine mod_T ?_ ?_); omega; intro _ _))

structure NearJ (base : List (Addr × Obj)) (T : T4) (v : Int) (n : Nat) (m : Str → Option Value) (nx : List (Addr × Obj)) : Prop where
  st : ∃ (A : Nat) (e : Int) (t1 t2 : Tok), n = A ∧ A ≠ 0 ∧ m (Str.ofString "a") = some (.int A t1) ∧ m (Str.ofString "e") = some (.int e t2) ∧ nf (if v < 0 then 1 else 0) A e = T
  v : ∃ t, m (Str.ofString "v") = some (.int v t)
  sub : ∀ q ∈ base, q ∈ nx
set_option maxHeartbeats 40000000 in
theorem g_near {w : World} {news : List (Addr × Obj)} (v low pr : Int) (t1 t2 t3 : Tok) (hb : v.natAbs < 2 ^ 1000) (hp : 0 < pr) :
    MGives w 4 142 [.int v t1, .int low t2, .int pr t3] news (fun n r => Tn w n r (fm low (if v < 0 then -(rn pr.toNat v.natAbs : Nat) else (rn pr.toNat v.natAbs : Nat)))) := by
  have hbl : bl v.natAbs ≤ 1000 := bl_le_of_lt hb
  have hA : (if v < 0 then -v else v) = ((v.natAbs : Nat) : Int) := by split <;> omega
  have hpr : pr = ((pr.toNat : Nat) : Int) := by omega
  have hp0 : 0 < pr.toNat := by omega
  have hbits : (Builtin.Int.intBits (if v < 0 then -v else v) : Int) ≤ 1000 := by rw [hA, intBits_bl, Int.natAbs_natCast]; omega
  have hU : (1 * 2 ^ ((Builtin.Int.intBits (if v < 0 then -v else v) : Int) - pr).toNat : Int) ≠ 0 := by
    rw [Int.one_mul]
    have := PySem.W.kbt_pos ((Builtin.Int.intBits (if v < 0 then -v else v) : Int) - pr).toNat
    omega
  have hLog : (1 * 2 ^ ((Builtin.Int.intBits (if v < 0 then -v else v) : Int) - pr).toNat : Int).natAbs.log2 < 9000 := by
    rw [Int.one_mul, ← PySem.W.kbt_cast, Int.natAbs_natCast, Nat.log2_two_pow]
    omega
  refine MGives.intro ?_
  k_fill
  intro _ _
  unfold MGives
  intro p loose mean mg mb dp un gd cn cs a ccd cl outer A₀ base h₀ L m s Q E B F X N T hk hd hu hret
  refine wpAny_call ?_
  k_dflt (refine' code_def ?k1 ?k2 ?k3 ?k4 ?k5 ?kA ?kF ?kK ?k6 ?k7 ?k8 ?k9 ?kB ?_ ?c2 ?c3 ?c4 ?c5; (case kA => exact rfl); (case kF => exact rfl); (case kK => assumption); (case k1 => k_asm); (case k2 => k_asm); (case k3 => k_asm); (case k4 => k_asm); (case k5 => k_asm); (case k6 => k_is); (case k7 => k_is); (case k8 => ((try dsimp only [Around.deeper, Around.in1, ktrTop]); omega)); (case k9 => first | exact BindsTo.of_eq rfl | exact binds_K (by k_in) rfl (by k_is) rfl rfl rfl); (case c5 => decide); (case kB => exact locs rfl); (case c2 => exact rfl); (case c3 => exact rfl); (case c4 => exact rfl); k_whole; intro g₁ L₁ h₁ FG₁ F₁ N₁ B₁ X₁ T₁; (try dsimp only); (try k_fold))
  replace F₁ : Fr g₁ L₁ h₁ (mapOf [(Str.ofString "p", .int pr t3), (Str.ofString "low", .int low t2), (Str.ofString "v", .int v t1)]) := fr_lookup F₁
  k_steps
  · have h0 : v = 0 := by with_reducible assumption
    subst h0
    exact hret _ _ _ _ (by k_asm) (by k_asm) sub_cons (Tn.of_eq (by simp [rn, fm_zero, bl_zero]))
  all_goals (
    unfold Stop
    (have hv0 : v ≠ 0 := by with_reducible assumption)
    (have hn0 : v.natAbs ≠ 0 := by omega)
    rw [fm_rn hv0 hp] at hret
    rename Fr _ _ _ _ => F9
    rename News _ _ _ _ => N9
    (first
      | refine Exists.elim (near_up (low := low) (sg := if v < 0 then 1 else 0) hA hpr hp0 hn0 (by with_reducible assumption) (.inl (by with_reducible assumption))) ?_
      | refine Exists.elim (near_up (low := low) (sg := if v < 0 then 1 else 0) hA hpr hp0 hn0 (by with_reducible assumption) (.inr ⟨(by with_reducible assumption), (by with_reducible assumption)⟩)) ?_
      | refine Exists.elim (near_down (low := low) (sg := if v < 0 then 1 else 0) hA hpr hp0 hn0 (by with_reducible assumption) (by with_reducible assumption) (.inl (by with_reducible assumption))) ?_
      | refine Exists.elim (near_down (low := low) (sg := if v < 0 then 1 else 0) hA hpr hp0 hn0 (by with_reducible assumption) (by with_reducible assumption) (.inr (by with_reducible assumption))) ?_
      | refine Exists.elim (near_small (low := low) (sg := if v < 0 then 1 else 0) hA hpr hn0 (by with_reducible assumption)) ?_)
    rintro A ⟨eA, hA0, hnf⟩
    refine While_inv (n₀ := A) (NearJ news (nf (if v < 0 then 1 else 0) (rn pr.toNat v.natAbs) low) v) F9 N9 ?_ ?_
    · exact ⟨⟨A, _, _, _, rfl, hA0, by (rw [← eA]; (first | with_reducible exact look_here | with_reducible assumption | (simp only [ofString_eq, mapOf, String.reduceEq, ↓reduceIte] <;> first | rfl | with_reducible assumption))), by (first | with_reducible exact look_here | with_reducible assumption | (simp only [ofString_eq, mapOf, String.reduceEq, ↓reduceIte] <;> first | rfl | with_reducible assumption)), hnf⟩, ⟨_, by (first | with_reducible exact look_here | with_reducible assumption | (simp only [ofString_eq, mapOf, String.reduceEq, ↓reduceIte] <;> first | rfl | with_reducible assumption))⟩, by first | exact sub_refl | exact sub_cons | exact sub_trans sub_cons sub_cons⟩
    · clear F9 N9
      rintro n m₁ nx h₂ tk₂ F9 N9 ⟨⟨A', e', s1, s2, rfl, hA1, j1, j2, hnf'⟩, ⟨s3, j3⟩, hsb⟩
      show wpAny _ _ _ _ _ _
      k_fold
      k_steps
      · refine Exists.elim (near_turn (sg := if v < 0 then 1 else 0) (e := e') hA1 (beq_iff_eq.mpr (by with_reducible assumption))) ?_
        rintro B9 ⟨eB, hlt, hB0, hnB⟩
        exact WhileStep.intro (by k_asm) (by k_asm) hlt ⟨⟨B9, _, _, _, rfl, hB0, by (rw [← eB]; (first | with_reducible exact look_here | with_reducible assumption | (simp only [ofString_eq, mapOf, String.reduceEq, ↓reduceIte] <;> first | rfl | with_reducible assumption))), by (first | with_reducible exact look_here | with_reducible assumption | (simp only [ofString_eq, mapOf, String.reduceEq, ↓reduceIte] <;> first | rfl | with_reducible assumption)), hnB.trans hnf'⟩, ⟨_, by (first | with_reducible exact look_here | with_reducible assumption | (simp only [ofString_eq, mapOf, String.reduceEq, ↓reduceIte] <;> first | rfl | with_reducible assumption))⟩, hsb⟩
      · refine hret _ _ _ _ (by k_asm) (by k_asm) (sub_trans hsb sub_cons) (Tn.of_eq ?_)
        rw [← hnf', if_pos (by with_reducible assumption)]
        exact near_end hA1 (fun h9 => absurd (beq_iff_eq.mp h9) (by with_reducible assumption))
      · refine hret _ _ _ _ (by k_asm) (by k_asm) (sub_trans hsb sub_cons) (Tn.of_eq ?_)
        rw [← hnf', if_neg (by with_reducible assumption)]
        exact near_end hA1 (fun h9 => absurd (beq_iff_eq.mp h9) (by with_reducible assumption)))
end Mine

-- CR
set_option maxRecDepth 100000
namespace Mine
open PySem PySem.W PyProof.Rows PySem.Spec PySem.Calls

def updL (a : Addr) (x : Obj) (news : List (Addr × Obj)) : List (Addr × Obj) := news.map fun p => if p.1 = a then (a, x) else p
theorem upd_here {a : Addr} {x y : Obj} {news : List (Addr × Obj)} (h : (a, y) ∈ news) : (a, x) ∈ updL a x news := List.mem_map.mpr ⟨_, h, if_pos rfl⟩
theorem upd_other {a b : Addr} {x y : Obj} {news : List (Addr × Obj)} (h : (b, y) ∈ news) (hn : b ≠ a) : (b, y) ∈ updL a x news := List.mem_map.mpr ⟨_, h, if_neg hn⟩
theorem upd_sub {a : Addr} {x : Obj} {own news : List (Addr × Obj)} (h : ∀ p ∈ own, p ∈ news) (hn : ∀ p ∈ own, p.1 ≠ a) : ∀ p ∈ own, p ∈ updL a x news := fun p hp => List.mem_map.mpr ⟨p, h p hp, if_neg (hn p hp)⟩

section
variable {w : World} {h₀ h : Heap} {L a b : Addr} {news : List (Addr × Obj)} {x : Obj} {its : Array Value} {n : Nat}
theorem ne_of_cls {y z : Obj} (N : News h₀ L h news) (h1 : (a, y) ∈ news) (h2 : (b, z) ∈ news) (hc : y.cls ≠ z.cls) : b ≠ a := by
  intro e
  subst e
  have := (N _ h1).1.symm.trans (N _ h2).1
  exact hc (congrArg Obj.cls (Option.some.inj this))
theorem Tn.upd {v : Value} {t : T4} (hT : Tn w news v t) (N : News h₀ L h news) (ha : (a, listOf its n) ∈ news) : Tn w (updL a x news) v t := by
  obtain ⟨b, k1, k2, k3, k4, n', rfl, hb⟩ := hT
  refine ⟨b, k1, k2, k3, k4, n', rfl, ?_⟩
  rcases hb with hb | hb
  · exact .inl (upd_other hb (ne_of_cls N ha hb (by show Value.type "list" ≠ Value.type "tuple"; intro e; injection e with e; exact absurd e (by decide))))
  · exact .inr hb
theorem AllT.upd {low : Int} {vs : List Value} {us : List Int} (hT : AllT w news low vs us) (N : News h₀ L h news) (ha : (a, listOf its n) ∈ news) : AllT w (updL a x news) low vs us :=
  ⟨hT.1, fun i v u h1 h2 => (hT.2 i v u h1 h2).upd N ha⟩
theorem AllT.push {low : Int} {vs : List Value} {us : List Int} {v : Value} {u : Int} (hT : AllT w news low vs us) (hv : Tn w news v (fm low u)) : AllT w news low (vs ++ [v]) (us ++ [u]) := by
  refine ⟨by simp [hT.1], fun i v' u' h1 h2 => ?_⟩
  by_cases hi : i < vs.length
  · rw [List.getElem?_append_left hi] at h1
    rw [List.getElem?_append_left (by rw [← hT.1]; exact hi)] at h2
    exact hT.2 i v' u' h1 h2
  · rw [List.getElem?_append_right (by omega)] at h1
    rw [List.getElem?_append_right (by rw [← hT.1]; omega)] at h2
    rw [← hT.1] at h2
    have h0 : i - vs.length = 0 := by
      have := (List.getElem?_eq_some_iff.mp h1).1
      simp at this
      omega
    rw [h0] at h1 h2
    cases h1; cases h2
    exact hv
theorem AllT.nil {low : Int} : AllT w news low [] [] := ⟨rfl, fun i v u h1 _ => by simp at h1⟩
end

/-- what an append to the list at l leaves -/
structure Kept (w : World) (l : Addr) (news nw : List (Addr × Obj)) : Prop where
  oth : ∀ q ∈ news, q.1 ≠ l → q ∈ nw
  tn : ∀ v t, Tn w news v t → Tn w nw v t
  non : ∀ q ∈ news, isTL q.2 = false → q ∈ nw
  be : ∀ a t k1 k2 k3 k4 n, Bears w news a (tobj t k1 k2 k3 k4 n) → Bears w nw a (tobj t k1 k2 k3 k4 n)
theorem Kept.all {w : World} {l : Addr} {news nw : List (Addr × Obj)} {low : Int} {vs : List Value} {us : List Int} (K : Kept w l news nw) (h : AllT w news low vs us) : AllT w nw low vs us := ⟨h.1, fun i v u a b => K.tn _ _ (h.2 i v u a b)⟩
section
variable {prog : Program} {w : World} {A : Around} {E : Value → Shared → Prop} {h₀ : Heap} {L l : Addr} {m : Str → Option Value} {news : List (Addr × Obj)} {vs : List Value} {n : Nat}
  {h : Heap} {g : Array GenState} {d : Drawn} {tk : Nat} {o : OsState}
theorem isL (N : News h₀ L h news) (hm : (l, listOf vs.toArray n) ∈ news) : h.IsList l vs.toArray := ⟨_, (N _ hm).1, rfl, n, rfl⟩
theorem litem_T {Q : Value → Shared → Prop} {value slice : Expr} {i : Int} {ui : Tok} {v : Value} (hm : (l, listOf vs.toArray n) ∈ news) (N : News h₀ L h news) (h0 : 0 ≤ i) (h1 : i < 1000000) (hx : vs[i.toNat]? = some v) (H : Q v ⟨h, g, d, tk, o⟩)
    (hs : subscripted slice false (.ref l) (.int i ui) = operate [.ref l, .int i ui] (getItem (.ref l) (.int i ui))) :
    wpAny (model prog w) A (subscriptTail value slice (.ref l) (.int i ui)) Q E ⟨h, g, d, tk, o⟩ :=
  tail_any (isL N hm).typeIs slot_list_getitem.lookup (wpAny_getItem_list (isL N hm) h0 (by omega) (by simpa using hx) H) hs
theorem litemN_T {Q : Value → Shared → Prop} {value slice : Expr} {i : Int} {ui : Tok} {v : Value} (hm : (l, listOf vs.toArray n) ∈ news) (N : News h₀ L h news) (h0 : i = -1) (h1 : 0 < vs.length) (hx : vs[vs.length - 1]? = some v) (H : Q v ⟨h, g, d, tk, o⟩)
    (hs : subscripted slice false (.ref l) (.int i ui) = operate [.ref l, .int i ui] (getItem (.ref l) (.int i ui))) :
    wpAny (model prog w) A (subscriptTail value slice (.ref l) (.int i ui)) Q E ⟨h, g, d, tk, o⟩ := by
  subst h0
  refine tail_any (isL N hm).typeIs slot_list_getitem.lookup (wpAny_getItem_list_neg (isL N hm) (by decide) (by simp; omega) (by decide) ?_ H) hs
  have e : ((-1 : Int) + (vs.toArray.size : Nat)).toNat = vs.length - 1 := by simp; omega
  rw [e]
  simpa using hx
theorem ltruthy_T {Q : Bool → Shared → Prop} (hm : (l, listOf vs.toArray n) ∈ news) (N : News h₀ L h news) (hz : vs.length ≤ 1000) (H : ∀ tk', Q (decide (0 < vs.length)) ⟨h, g, d, tk', o⟩) :
    wpAny (model prog w) A (truthy (.ref l)) Q E ⟨h, g, d, tk, o⟩ := by
  refine wpAny_truthy_list (s := ⟨h, g, d, tk, o⟩) (isL N hm) (by simp; omega) ?_
  have e : (!vs.toArray.isEmpty) = decide (0 < vs.length) := by cases vs <;> simp
  rw [e]
  exact H _
theorem llen_T {Q : Value → Shared → Prop} (hm : (l, listOf vs.toArray n) ∈ news) (N : News h₀ L h news) (hz : vs.length ≤ 1000) (H : ∀ t' tk', Q (.int (vs.length : Nat) t') ⟨h, g, d, tk', o⟩) :
    wpAny (model prog w) A (call (.builtin "len") [.ref l]) Q E ⟨h, g, d, tk, o⟩ := by
  refine PyProof.Rows.len_list (s := ⟨h, g, d, tk, o⟩) (isL N hm) (by simp; omega) ?_
  rw [List.size_toArray]
  exact H _ _
theorem append_T {Q : Value → Shared → Prop} {v : Value} (hm : (l, listOf vs.toArray n) ∈ news) (F : Fr h₀ L h m) (N : News h₀ L h news) (hz : vs.length ≤ 1000)
    (H : ∀ h' nw, Fr h₀ L h' m → News h₀ L h' nw → (l, listOf (vs ++ [v]).toArray (n + 1)) ∈ nw → Kept w l news nw → Q .none ⟨h', g, d, tk, o⟩) :
    wpAny (model prog w) A (call (.builtin "list.append") [.ref l, v]) Q E ⟨h, g, d, tk, o⟩ := by
  refine append_at (s := ⟨h, g, d, tk, o⟩) (N _ hm).1 (fun h' hs ho => H h' _ (F.update N hm hs) (N.update hm hs (o' := listOf (vs ++ [v]).toArray (n + 1)) ?_) (upd_here hm) ⟨fun q hq hn => upd_other (x := listOf (vs ++ [v]).toArray (n + 1)) hq hn, fun v t hT => hT.upd N hm, fun q hq hc => upd_other hq ?_, fun a t k1 k2 k3 k4 n hb => ?_⟩) (by rw [sizeLine_eq]; simp; omega)
  · rw [ho]
    simp
  · intro e
    have := (N _ hq).1
    rw [e, (N _ hm).1] at this
    rw [← Option.some.inj this] at hc
    cases hc
  · rcases hb with hb | hb
    · exact .inl (upd_other hb (ne_of_cls N hm hb (by show Value.type "list" ≠ Value.type "tuple"; intro e; injection e with e; exact absurd e (by decide))))
    · exact .inr hb
theorem methA_T {pl : Sem Bool} {Q : Value × List Value → Shared → Prop} (hm : (l, listOf vs.toArray n) ∈ news) (N : News h₀ L h news) (H : Q (.builtin "list.append", [.ref l]) ⟨h, g, d, tk, o⟩) :
    wpAny (model prog w) A (getMethod (.ref l) (Str.ofString "append") pl) Q E ⟨h, g, d, tk, o⟩ := getMethod_append_N (s := ⟨h, g, d, tk, o⟩) N hm H
theorem modP_T {Q : Value → Shared → Prop} {a b : Int} {t1 t2 : Tok} (hb : 0 < b) (H : ∀ r t' tk', a.fmod b = r → 0 ≤ r → r < b → Q (.int r t') ⟨h, g, d, tk', o⟩) : wpAny (model prog w) A (binaryOp .Mod (.int a t1) (.int b t2)) Q E ⟨h, g, d, tk, o⟩ :=
  mod_T (by omega) fun t' tk' => H _ t' tk' rfl (Int.fmod_nonneg_of_pos _ hb) (Int.fmod_lt_of_pos _ hb)
theorem lcopy_T {Q : Value → Shared → Prop} (hm : (l, listOf vs.toArray n) ∈ news) (F : Fr h₀ L h m) (N : News h₀ L h news) (hz : vs.length ≤ 1000)
    (H : ∀ h' D c, Fr h₀ L h' m → News h₀ L h' ((D, listOf vs.toArray c) :: news) → (∀ q ∈ news, q.1 ≠ D) → Q (.ref D) ⟨h', g, d, tk, o⟩) :
    wpAny (model prog w) A (call (.type "list") [.ref l]) Q E ⟨h, g, d, tk, o⟩ :=
  list_copyK (s := ⟨h, g, d, tk, o⟩) F N (isL N hm) (fun D c h' F' N' hlt => H h' D c F' N' fun q hq => Nat.ne_of_lt (hlt q hq)) (by rw [sizeLine_eq]; simp; omega)
theorem newlist_T {Q : Value → Shared → Prop} (F : Fr h₀ L h m) (N : News h₀ L h news)
    (H : ∀ h' D, Fr h₀ L h' m → News h₀ L h' ((D, listOf ([] : List Value).toArray 0) :: news) → (∀ q ∈ news, q.1 ≠ D) → Q (.ref D) ⟨h', g, d, tk, o⟩) :
    wpAny (model prog w) A (newList []) Q E ⟨h, g, d, tk, o⟩ :=
  newList_N (s := ⟨h, g, d, tk, o⟩) F N (fun h' F' N' => H h' _ F' N' fun q hq => Nat.ne_of_lt (Heap.lt_size (N q hq).1)) (by rw [sizeLine_eq]; simp)
theorem slice_T {Q : Value → Shared → Prop} {value slice : Expr} {i : Int} {ui : Tok} (hm : (l, listOf vs.toArray n) ∈ news) (F : Fr h₀ L h m) (N : News h₀ L h news) (h0 : 0 ≤ i) (hz : vs.length ≤ 1000)
    (H : ∀ h' D, Fr h₀ L h' m → News h₀ L h' ((D, listOf (vs.take i.toNat).toArray 0) :: news) → (∀ q ∈ news, q.1 ≠ D) → Q (.ref D) ⟨h', g, d, tk, o⟩)
    (hs : subscripted slice false (.ref l) (.ref h.objs.size) = operate [.ref h.objs.size, .ref l] (getItem (.ref l) (.ref h.objs.size))) (ht : ∀ r, letTemporaryGo value (.ref l) r = pure ()) :
    wpAny (model prog w) A (subscriptTail value slice (.ref l) (.ref h.objs.size)) Q E ⟨h.push { cls := .type "slice", data := .fields #[.none, .int i ui, .none] }, g, d, tk, o⟩ := by
  have e : sliceBounds none (some i) none vs.toArray.size = (((0 : Nat) : Int), ((min i.toNat vs.toArray.size : Nat) : Int), 1) := by
    simp only [sliceBounds, Option.getD_none, show (1 : Int) > 0 by decide, if_true, if_neg (show ¬ (i < 0) by omega)]
    congr 1
    congr 1
    omega
  have e2 : slicePick vs.toArray none (some i) none = (vs.take i.toNat).toArray := by
    rw [kmk_pick_nat _ e]
    show ((vs.drop 0).take (min i.toNat vs.toArray.size - 0)).toArray = _
    rw [List.drop_zero, Nat.sub_zero, List.size_toArray, kmk_take_min]
  refine kmk_slice (s := ⟨h, g, d, tk, o⟩) F N (isL N hm) .none (.int i ui) (fun D h' F' N' hlt => H h' D F' (by rw [← e2]; exact N') fun q hq => Nat.ne_of_lt (hlt q hq)) hs ht (by rw [sizeLine_eq]; simp; omega)
end

theorem DrawGives.use {w : World} {need : Nat} {f : Addr} {vs : List Value} {news : List (Addr × Obj)} {l : Addr} {its : List Value} {n : Int}
    {p : Program} {loose : List Str} {mean : ExcName → Option Value} {mg mb : Str → Option Value}
    {dp un : Nat} {gd : Option (List Code)} {cn : Str} {cs : Scope} {a : Addr} {ccd : Value} {cl : List (Str × Addr)} {outer : List Env} {A₀ : Around} {base h₀ : Heap} {L : Addr} {m : Str → Option Value} {s : Shared}
    {Q E : Value → Shared → Prop} (G : DrawGives w need f vs news l its (fun r => ∃ k tk, r = .int k tk ∧ 0 ≤ k ∧ k < n)) (hL : base.IsList l its.toArray)
    (B : Below A₀ base outer h₀) (F : Fr h₀ L s.heap m) (X : (Mine.hd.heap_39 w.params).In h₀) (N : News h₀ L s.heap news) (T : Top p loose mean mg mb h₀) (hk : cs.kind = .function) (hd : dp + need < recursionLimit) (hu : un + 8 * need < cLine)
    (ret : ∀ k t h' tk', Fr h₀ L h' m → News h₀ L h' news → 0 ≤ k → k < n → Q (.int k t) { s with heap := h', toks := tk' }) :
    wpAny (model PySem.Challenge.rw_aa5008_01.prog w) (ktrTop dp un gd cn cs L a ccd cl outer) (call (.ref f) vs) Q E s :=
  G _ _ _ _ _ _ _ _ _ _ _ _ _ _ _ _ _ _ _ _ _ _ hL B F X N T hk hd hu fun r news' h' tk' F' N' hs ⟨k, t, e, h1, h2⟩ => by
    subst e
    exact ret k t h' tk' F' (fun p hp => N' p (hs p hp)) h1 h2
theorem fill_K (w : World) (h : PySem.Challenge.rw_aa5008_01 = PySem.Challenge.rw_aa5008_01 → Mine.hd.heap_39 w.params = Mine.hd.heap_39 w.params → True) : True := h rfl rfl
end Mine

-- CF
set_option maxRecDepth 100000
namespace Mine
open PySem PySem.W PyProof.Rows PySem.Spec PySem.Calls

theorem fill_CF (w : World) : True := by
  refine fill_K w ?_
  k_fill
  intro _ _
  trivial
set_option maxHeartbeats 4000000 in
/-- the law's own def, as the written heap bears it -/
def lawO (w : World) : { o : Obj // (Mine.hd.heap_39 w.params).lookup 156 = some o } := by
  apply Subtype.mk
  k_is
def funcOf : Obj → FuncData
  | ⟨_, _, .func fd, _⟩ => fd
  | _ => default
def stmtsOf : FuncBody → List Stmt
  | .stmts b => b
  | _ => []
def lawBody (w : World) : List Stmt := stmtsOf (funcOf (lawO w).1).body
def lawScope (w : World) : Scope := (funcOf (lawO w).1).scope
def stAt : List Stmt → Nat → Stmt
  | s :: _, 0 => s
  | _ :: r, n + 1 => stAt r n
  | [], _ => .Pass default
def forBody : Stmt → List Stmt
  | .For _ _ b _ _ => b
  | .While _ b _ _ => b
  | _ => []
end Mine

-- CW
set_option maxRecDepth 100000
namespace Mine
open PySem PySem.W PyProof.Rows PySem.Spec PySem.Calls

theorem addOk_fm {low a b pr sub : Int} (l0 : -100 ≤ low) (l1 : low ≤ 100) (p0 : 0 < pr) (p1 : pr < 1000) (hs : sub = 0 ∨ sub = 1) (ha : a.natAbs < 2 ^ 300) (hb : b.natAbs < 2 ^ 300) : AddOk (fm low a) (fm low b) pr sub := by
  have fa := fm_is low a
  have fb := fm_is low b
  have la := bl_le_of_lt ha
  have lb := bl_le_of_lt hb
  have a1 := fa.bb
  have b1 := fb.bb
  have ae : (fm low a).m = 0 ∧ (fm low a).e = 0 ∨ (low ≤ (fm low a).e ∧ (fm low a).e ≤ low + 300) := by
    by_cases h : (fm low a).m = 0
    · exact .inl ⟨h, fa.z' h⟩
    · have := fa.e1 h; have := fa.e2 h; right; omega
  have be : (fm low b).m = 0 ∧ (fm low b).e = 0 ∨ (low ≤ (fm low b).e ∧ (fm low b).e ≤ low + 300) := by
    by_cases h : (fm low b).m = 0
    · exact .inl ⟨h, fb.z' h⟩
    · have := fb.e1 h; have := fb.e2 h; right; omega
  exact ⟨p0, p1, hs, fb.s, fa.s, fa.m, fb.m, fa.b, fb.b, by omega, by omega, fa.z, fb.z, by omega, by omega⟩
/-- what law's numbers keep to -/
structure Fit (pv low : Int) : Prop where
  p0 : 3 ≤ pv
  p1 : pv ≤ 16
  l0 : -20 ≤ low
  l1 : low ≤ 20
theorem RN_small {p k : Nat} (hp : 0 < p) {x : Int} (h : x.natAbs < 2 ^ k) : (RN p x).natAbs < 2 ^ (k + 1) := by
  have := RN_bound hp (k := k) (x := x) (by omega)
  have h2 := Nat.two_pow_pos k
  rw [Nat.pow_succ]
  omega
theorem nat_small {j k : Nat} {x : Int} (h : x.natAbs < 2 ^ j) (hj : j ≤ k) : x.natAbs < 2 ^ k := Nat.lt_of_lt_of_le h (pow_le_of hj)
theorem add_small {k : Nat} {x y : Int} (h : x.natAbs < 2 ^ k) (h' : y.natAbs < 2 ^ k) : (x + y).natAbs < 2 ^ (k + 1) := by
  rw [Nat.pow_succ]; omega
theorem sub_small {k : Nat} {x y : Int} (h : x.natAbs < 2 ^ k) (h' : y.natAbs < 2 ^ k) : (x - y).natAbs < 2 ^ (k + 1) := by
  rw [Nat.pow_succ]; omega
section
variable {w : World} {news : List (Addr × Obj)} {low a b pv : Int} {v1 v2 : Value} {t1 t2 : Tok}
theorem w_add (h1 : Tn w news v1 (fm low a)) (h2 : Tn w news v2 (fm low b)) (hf : Fit pv low) (hr : Rep pv.toNat a ∨ Rep pv.toNat b) (ha : a.natAbs < 2 ^ 300) (hb : b.natAbs < 2 ^ 300) :
    MGives w 8 91 [v1, v2, .int pv t1, .str (Str.ofString "n") t2] news (fun n r => Tn w n r (fm low (RN pv.toNat (a + b)))) := by
  obtain ⟨p0, p1, l0, l1⟩ := hf
  have := g_add4 v1 v2 _ _ pv t1 t2 h1 h2 (addOk_fm (by omega) (by omega) (by omega) (by omega) (.inl rfl) ha hb)
  have e : pyAdd (fm low a) (fm low b) pv 0 = fm low (RN pv.toNat (a + b)) := by
    rw [← pyAdd_fm (by omega) (by omega) hr, show ((pv.toNat : Nat) : Int) = pv by omega]
  rwa [e] at this
theorem w_sub (h1 : Tn w news v1 (fm low a)) (h2 : Tn w news v2 (fm low b)) (hf : Fit pv low) (hr : Rep pv.toNat a ∨ Rep pv.toNat b) (ha : a.natAbs < 2 ^ 300) (hb : b.natAbs < 2 ^ 300) :
    MGives w 9 99 [v1, v2, .int pv t1, .str (Str.ofString "n") t2] news (fun n r => Tn w n r (fm low (RN pv.toNat (a - b)))) := by
  obtain ⟨p0, p1, l0, l1⟩ := hf
  have := g_sub v1 v2 _ _ pv t1 t2 h1 h2 (addOk_fm (by omega) (by omega) (by omega) (by omega) (.inr rfl) ha hb)
  have e : pyAdd (fm low a) (fm low b) pv 1 = fm low (RN pv.toNat (a - b)) := by
    rw [← pySub_fm (by omega) (by omega) hr, show ((pv.toNat : Nat) : Int) = pv by omega]
  rwa [e] at this
theorem w_two (h1 : Tn w news v1 (fm low a)) (h2 : Tn w news v2 (fm low b)) (hf : Fit pv low) (ra : Rep pv.toNat a) (rb : Rep pv.toNat b) (ha : a.natAbs < 2 ^ 290) (hb : b.natAbs < 2 ^ 290) :
    MGives w 12 149 [v1, v2, .int pv t1] news (fun n r => PairT w n r (fm low (RN pv.toNat (a + b))) (fm low (a + b - RN pv.toNat (a + b)))) := by
  obtain ⟨p0, p1, l0, l1⟩ := hf
  have hp0 : 0 < pv.toNat := by omega
  have hst := two_steps (p := pv.toNat) (by omega) ra rb
  dsimp only at hst
  have b1 := RN_small hp0 (add_small ha hb)
  have b2 := RN_small hp0 (sub_small b1 (nat_small ha (by omega)))
  have b3 := RN_small hp0 (sub_small (nat_small b1 (by omega)) b2)
  have b4 := RN_small hp0 (sub_small (nat_small ha (by omega)) b3)
  have b5 := RN_small hp0 (sub_small (nat_small hb (by omega)) b2)
  have r1 : Rep pv.toNat (RN pv.toNat (a + b)) := RN_rep hp0
  have r2 : Rep pv.toNat (RN pv.toNat (RN pv.toNat (a + b) - a)) := RN_rep hp0
  have r4 : ∀ x, Rep pv.toNat (RN pv.toNat x) := fun x => RN_rep hp0
  have add : ∀ x y : Int, Rep pv.toNat x → pyAdd (fm low x) (fm low y) pv 0 = fm low (RN pv.toNat (x + y)) := fun x y hx => by
    rw [← pyAdd_fm (by omega) (by omega) (.inl hx), show ((pv.toNat : Nat) : Int) = pv by omega]
  have sub : ∀ x y : Int, Rep pv.toNat x → pyAdd (fm low x) (fm low y) pv 1 = fm low (RN pv.toNat (x - y)) := fun x y hx => by
    rw [← pySub_fm (by omega) (by omega) (.inl hx), show ((pv.toNat : Nat) : Int) = pv by omega]
  have ok : ∀ (x y s : Int), s = 0 ∨ s = 1 → x.natAbs < 2 ^ 300 → y.natAbs < 2 ^ 300 → AddOk (fm low x) (fm low y) pv s := fun x y s h i j => addOk_fm (by omega) (by omega) (by omega) (by omega) h i j
  refine g_two v1 v2 _ _ _ _ _ _ _ _ pv t1 h1 h2 (ok _ _ _ (.inl rfl) (nat_small ha (by omega)) (nat_small hb (by omega))) (add _ _ ra)
    (ok _ _ _ (.inr rfl) (nat_small b1 (by omega)) (nat_small ha (by omega))) (sub _ _ r1)
    (ok _ _ _ (.inr rfl) (nat_small b1 (by omega)) (nat_small b2 (by omega))) (sub _ _ r1)
    (ok _ _ _ (.inr rfl) (nat_small ha (by omega)) (nat_small b3 (by omega))) (sub _ _ ra)
    (ok _ _ _ (.inr rfl) (nat_small hb (by omega)) (nat_small b2 (by omega))) (sub _ _ rb)
    (ok _ _ _ (.inl rfl) (nat_small b4 (by omega)) (nat_small b5 (by omega))) ?_
  rw [add _ _ (r4 _), hst]
theorem bool_ex {need : Nat} {f : Addr} {vs : List Value} (G : MGivesP w need f vs news (fun r => r = .bool true)) : MGivesP w need f vs news (fun r => ∃ _ : Unit, r = .bool true) :=
  fun _ _ _ _ _ _ _ _ _ _ _ _ _ _ _ _ _ _ _ _ _ _ B F X N T hk hd hu ret => G _ _ _ _ _ _ _ _ _ _ _ _ _ _ _ _ _ _ _ _ _ _ B F X N T hk hd hu fun r n' h' tk' F' N' hs e => ret r n' h' tk' F' N' hs ⟨(), e⟩
theorem w_form (h1 : Tn w news v1 (fm low a)) (hf : Fit pv low) (ra : Rep pv.toNat a) (ha : a.natAbs < 2 ^ 300) :
    MGivesP w 20 128 [v1, .int pv t1, .int low t2] news (fun r => ∃ _ : Unit, r = .bool true) := by
  obtain ⟨p0, p1, l0, l1⟩ := hf
  have := rep_iff.mp ra
  exact bool_ex (g_form v1 low a pv t1 t2 h1 (by omega) (by omega) (nat_small ha (by omega)) (by omega))
theorem w_form400 (h1 : Tn w news v1 (fm low a)) (hf : Fit pv low) (ha : a.natAbs < 2 ^ 300) :
    MGivesP w 20 128 [v1, .int 400 t1, .int low t2] news (fun r => ∃ _ : Unit, r = .bool true) := by
  obtain ⟨p0, p1, l0, l1⟩ := hf
  have h2 := bl_le_of_lt ha
  have h3 := bl_od_le a.natAbs
  exact bool_ex (g_form v1 low a 400 t1 t2 h1 (by omega) (by omega) (nat_small ha (by omega)) (by omega))
theorem w_whole (h1 : Tn w news v1 (fm low a)) (hf : Fit pv low) (ha : a.natAbs < 2 ^ 300) :
    MGivesP w 3 135 [v1, .int low t1] news (fun r => ∃ tk, r = .int a tk) := by
  obtain ⟨p0, p1, l0, l1⟩ := hf
  exact g_whole v1 low a t1 h1 (by omega) (by omega) (nat_small ha (by omega))
theorem w_near {t3 : Tok} (hf : Fit pv low) (ha : a.natAbs < 2 ^ 300) :
    MGives w 4 142 [.int a t1, .int low t2, .int pv t3] news (fun n r => Tn w n r (fm low (RN pv.toNat a))) := by
  obtain ⟨p0, p1, l0, l1⟩ := hf
  exact g_near a low pv t1 t2 t3 (nat_small ha (by omega)) (by omega)
theorem w_pos (h1 : Tn w news v1 (fm low a)) (hf : Fit pv low) (ha : a.natAbs < 2 ^ 300) :
    MGives w 4 60 [v1, .int pv t1, .str (Str.ofString "n") t2] news (fun n r => Tn w n r (fm low (RN pv.toNat a))) := by
  obtain ⟨p0, p1, l0, l1⟩ := hf
  have fa := fm_is low a
  have la := bl_le_of_lt ha
  have := fa.bb
  have g := g_pos v1 (fm low a) pv t1 t2 h1 fa.z' fa.m fa.b (by omega) (by omega)
  have e : nfI (fm low a).s (fm low a).m (fm low a).e pv = fm low (RN pv.toNat a) := by
    by_cases h0 : a = 0
    · subst h0
      rw [RN_zero (by omega), fm_zero]
      unfold nfI nf
      rw [show (0 : Int).natAbs = 0 from rfl, rn_zero (by omega), if_pos rfl]
    · rw [← nfI_fm (by omega) h0, show ((pv.toNat : Nat) : Int) = pv by omega]
  rwa [e] at g
def sgn (a : Int) : Int := if 0 < a then 1 else if a < 0 then -1 else 0
theorem w_sign (h1 : Tn w news v1 (fm low a)) :
    MGivesP w 20 83 [v1] news (fun r => ∃ tk, r = .int (sgn a) tk) := by
  have fa := fm_is low a
  have s01 := fa.s
  have g := g_sign v1 (fm low a) h1 fa.z' (by omega) (by omega)
  have e : (if (fm low a).m = 0 then (0 : Int) else (-1) ^ (fm low a).s.toNat) = sgn a := by
    unfold sgn
    by_cases h0 : a = 0
    · rw [if_pos (fa.v0.mpr h0), if_neg (by omega), if_neg (by omega)]
    · have h2 := fun h => h0 (fa.v0.mp h)
      rw [if_neg h2, fa.sg h2]
      by_cases hn : a < 0
      · rw [if_pos hn, if_neg (by omega), if_pos hn]; rfl
      · rw [if_neg hn, if_pos (by omega)]; rfl
  rwa [e] at g
theorem w_shift1 (h1 : Tn w news v1 (fm low a)) : MGives w 3 114 [v1, .int 1 t1] news (fun n r => Tn w n r (fm low (2 * a))) := by
  have g := g_shift v1 (fm low a) 1 t1 h1
  have e : (if (fm low a).m = 0 then fm low a else ⟨(fm low a).s, (fm low a).m, (fm low a).e + 1, (fm low a).b⟩) = fm low (2 * a) := by
    have fa := fm_is low a
    by_cases h0 : a = 0
    · rw [if_pos (fa.v0.mpr h0), h0]; rfl
    · have h2 := fun h => h0 (fa.v0.mp h)
      rw [if_neg h2]
      have : fm low (2 * a) = fm (low + 1) a := fm_scale (j := 0) (k := 1) (by rw [Int.pow_zero]; omega) (by omega)
      rw [this, fm_parts h0, fm_parts h0]
      dsimp only
      congr 1
      omega
  rwa [e] at g
theorem w_sum {l : Addr} {n : Nat} {vs : List Value} {us : List Int} (hl : (l, listOf vs.toArray n) ∈ news) (hv : AllT w news low vs us) (hf : Fit pv low) (hus : ∀ u ∈ us, u.natAbs < 2 ^ 280) (hn : us.length ≤ 20) :
    MGives w 8 107 [.ref l] news (fun nn r => Tn w nn r (fm low us.sum)) := by
  obtain ⟨p0, p1, l0, l1⟩ := hf
  have key : ∀ (k : Nat) (xs : List Int), xs.length ≤ k → k ≤ 20 → (∀ u ∈ xs, u.natAbs < 2 ^ 280) → xs.sum.natAbs < 2 ^ (280 + k + 1) := by
    intro k xs
    induction xs generalizing k with
    | nil => intro _ _ _; exact Nat.two_pow_pos _
    | cons x r ih =>
      intro h1 h2 h3
      rw [List.length_cons] at h1
      obtain ⟨j, rfl⟩ : ∃ j, k = j + 1 := ⟨k - 1, by omega⟩
      have h4 := ih j (by omega) (by omega) fun u hu => h3 u (by simp [hu])
      have h5 := h3 x (by simp)
      rw [List.sum_cons]
      exact add_small (nat_small h5 (by omega)) h4
  refine g_sum l n vs us low hl hv (by omega) (by omega) (fun k => ?_) fun u hu => nat_small (hus u hu) (by omega)
  exact nat_small (key 20 (us.take k) (by rw [List.length_take]; omega) (by omega) fun u hu => hus u (List.mem_of_mem_take hu)) (by omega)
end
section
variable {prog : Program} {w : World} {A : Around} {E : Value → Shared → Prop} {h₀ : Heap} {L : Addr} {m : Str → Option Value} {news : List (Addr × Obj)} {h : Heap} {g : Array GenState} {d : Drawn} {tk : Nat} {o : OsState}
theorem range1_T {Q : Value → Shared → Prop} {n : Int} {t : Tok} (F : Fr h₀ L h m) (N : News h₀ L h news)
    (H : ∀ h' r tk' t₁ u₁ v₁, IsRange h' r 0 n 1 t₁ u₁ v₁ → Fr h₀ L h' m → News h₀ L h' news → Q (.ref r) ⟨h', g, d, tk', o⟩) :
    wpAny (model prog w) A (call (.type "range") [.int n t]) Q E ⟨h, g, d, tk, o⟩ :=
  range1_rows (s := ⟨h, g, d, tk, o⟩) F N fun h' tk' t₁ u₁ v₁ R F' N' _ => H h' _ tk' t₁ u₁ v₁ R F' N'
theorem range2_T {Q : Value → Shared → Prop} {a n : Int} {t u : Tok} (F : Fr h₀ L h m) (N : News h₀ L h news)
    (H : ∀ h' r tk' t₁ u₁ v₁, IsRange h' r a n 1 t₁ u₁ v₁ → Fr h₀ L h' m → News h₀ L h' news → Q (.ref r) ⟨h', g, d, tk', o⟩) :
    wpAny (model prog w) A (call (.type "range") [.int a t, .int n u]) Q E ⟨h, g, d, tk, o⟩ :=
  range2_rows (s := ⟨h, g, d, tk, o⟩) F N fun h' tk' t₁ u₁ v₁ R F' N' _ => H h' _ tk' t₁ u₁ v₁ R F' N'
end
/-- a fact that the library's own lines shall not see -/
def Hid (P : Prop) : Prop := P
theorem Hid.un {P : Prop} (h : Hid P) : P := h
theorem Hid.of {P : Prop} (h : P) : Hid P := h
/-- one number, one form -/
theorem fm_inj {low a b : Int} (h : fm low a = fm low b) : a = b := by
  by_cases ha : a = 0
  · subst ha
    by_cases hb : b = 0
    · exact hb.symm
    · have := (fm_is low 0).v0.mpr rfl
      rw [h] at this
      exact absurd ((fm_is low b).v0.mp this) hb
  · have h1 := fun k => ha ((fm_is low a).v0.mp k)
    have h2 := (fm_is low a).val h1
    rw [h] at h1 h2
    rw [← h2, (fm_is low b).val h1]
end Mine

-- CV
set_option maxRecDepth 100000
namespace Mine
open PySem PySem.W PyProof.Rows PySem.Spec PySem.Calls

section
variable {w : World} {A : Around} {E : Value → Shared → Prop} {env : Env} {h₀ : Heap} {L a : Addr} {m : Str → Option Value} {news : List (Addr × Obj)} {v1 v2 : Value} {n : Nat}
  {h : Heap} {g : Array GenState} {d : Drawn} {tk : Nat} {o : OsState}
theorem unpack2_T {prog : Program} {elts : List Expr} {k : Nat} {pos : Pos} {Q : Unit → Shared → Prop} (B : Bears w news a { cls := .type "tuple", data := .seq #[v1, v2] n }) (F : Fr h₀ L h m) (X : (Mine.hd.heap_39 w.params).In h₀) (N : News h₀ L h news)
    (hh : A.handled = none) (hn : (assignEach elts env).length = 2) (hstar : (assignEach elts env).findIdx? (·.1) = none)
    (H : ∀ h', Fr h₀ L h' m → News h₀ L h' news → wpAny (model prog w) A (assignInOrder ((assignEach elts env).map (·.2)) [v1, v2]) Q E ⟨h', g, d, tk, o⟩) :
    wpAny (model prog w) A (assign (.Tuple elts k pos) env (.ref a)) Q E ⟨h, g, d, tk, o⟩ :=
  unpackN_ F N ⟨_, B.get F X N, rfl, _, rfl⟩ hh hn hstar H
end
theorem AllT.app {w : World} {news tl : List (Addr × Obj)} {low : Int} {vs : List Value} {us : List Int} (h : AllT w news low vs us) : AllT w (news ++ tl) low vs us := h.mono sub_app
theorem AllT.cons {w : World} {news : List (Addr × Obj)} {p : Addr × Obj} {low : Int} {vs : List Value} {us : List Int} (h : AllT w news low vs us) : AllT w (p :: news) low vs us := h.mono sub_cons
theorem w_sumT {w : World} {news : List (Addr × Obj)} {low pv T : Int} {l : Addr} {n : Nat} {vs : List Value} {us : List Int} (hl : (l, listOf vs.toArray n) ∈ news) (hv : AllT w news low vs us) (hf : Fit pv low) (hus : ∀ u ∈ us, u.natAbs < 2 ^ 280) (hn : us.length ≤ 20) (hT : us.sum = T) :
    MGives w 8 107 [.ref l] news (fun nn r => Tn w nn r (fm low T)) := by
  subst hT
  exact w_sum hl hv hf hus hn
theorem Kept.of_sub {w : World} {l : Addr} {news nw : List (Addr × Obj)} (h : ∀ q ∈ news, q ∈ nw) : Kept w l news nw :=
  ⟨fun q hq _ => h q hq, fun v t hT => hT.mono h, fun q hq _ => h q hq, fun a t k1 k2 k3 k4 n hb => hb.mono h⟩
theorem Kept.after {w : World} {l : Addr} {news n1 nw : List (Addr × Obj)} (K : Kept w l n1 nw) (h : ∀ q ∈ news, q ∈ n1) : Kept w l news nw :=
  ⟨fun q hq hn => K.oth q (h q hq) hn, fun v t hT => K.tn v t (hT.mono h), fun q hq hc => K.non q (h q hq) hc, fun a t k1 k2 k3 k4 n hb => K.be a t k1 k2 k3 k4 n (hb.mono h)⟩
/-- the names, but for some, keep what they hold -/
def Same (ns : List String) (m m' : Str → Option Value) : Prop := ∀ x : String, x ∉ ns → m' (Str.ofString x) = m (Str.ofString x)
theorem Same.refl {ns : List String} {m : Str → Option Value} : Same ns m m := fun _ _ => rfl
theorem Same.set {ns : List String} {m m' : Str → Option Value} {y : String} {v : Value} (h : Same ns m m') (hy : y ∈ ns) : Same ns m (fun z => if z = Str.ofString y then some v else m' z) := fun x hx => by
  have hxy : ¬ Str.ofString x = Str.ofString y := by rw [ofString_eq]; intro e; subst e; exact hx hy
  show (if Str.ofString x = Str.ofString y then some v else m' (Str.ofString x)) = _
  rw [if_neg hxy]
  exact h x hx
theorem Same.trans {ns : List String} {m m' m'' : Str → Option Value} (h : Same ns m m') (h' : Same ns m' m'') : Same ns m m'' := fun x hx => (h' x hx).trans (h x hx)
theorem Same.wide {ns ns' : List String} {m m' : Str → Option Value} (h : Same ns m m') (hs : ∀ x ∈ ns, x ∈ ns') : Same ns' m m' := fun x hx => h x fun k => hx (hs x k)
theorem shaped_list (us : List Int) (low : Int) : PySem.SeqAt.shaped (.list (us.map fun u => (fm low u).d)) = true := by
  have h1 : PyData.canLayAll0 (us.map fun u => (fm low u).d) = true := by
    induction us with
    | nil => rfl
    | cons u r ih =>
      rw [List.map_cons, PyData.canLayAll0, ih]
      simp [T4.d, PyData.canLay0, PyData.canLayAll0]
  have h2 : PyData.depthAll (us.map fun u => (fm low u).d) ≤ 5 := by
    clear h1
    induction us with
    | nil => rw [List.map_nil, PyData.depthAll]; decide
    | cons u r ih =>
      rw [List.map_cons, PyData.depthAll]
      have : PyData.depth (fm low u).d ≤ 5 := by simp [T4.d, PyData.depth, PyData.depthAll]
      omega
  unfold PySem.SeqAt.shaped
  rw [PyData.canLay0, h1, PyData.depth]
  simp
  omega
section
variable {prog : Program} {w : World} {A : Around} {E : Value → Shared → Prop} {Q : Value → Shared → Prop} {h₀ : Heap} {L a b : Addr} {m : Str → Option Value} {news : List (Addr × Obj)} {n n' : Nat} {vs : List Value} {us : List Int} {low : Int}
  {h : Heap} {g : Array GenState} {d : Drawn} {tk : Nat} {o : OsState}
theorem readsAll_T (hal : AllT w news low vs us) (F : Fr h₀ L h m) (X : (Mine.hd.heap_39 w.params).In h₀) (N : News h₀ L h news) : ReadsAll h vs (us.map fun u => (fm low u).d) [] := by
  induction vs generalizing us with
  | nil =>
    have : us = [] := by
      have := hal.1
      cases us with
      | nil => rfl
      | cons x y => simp at this
    subst this
    exact ReadsAll.nil
  | cons v r ih =>
    cases us with
    | nil => have := hal.1; simp at this
    | cons u us =>
      obtain ⟨a, k1, k2, k3, k4, n, rfl, hb⟩ := hal.2 0 v u rfl rfl
      exact ReadsAll.cons (reads_T (hb.get F X N)) (ih ⟨by have := hal.1; simpa using this, fun i v u h1 h2 => hal.2 (i + 1) v u (by simpa using h1) (by simpa using h2)⟩)
theorem lne_T (h1 : (a, listOf vs.toArray n) ∈ news) (h2 : (b, listOf vs.toArray n') ∈ news) (hal : AllT w news low vs us) (F : Fr h₀ L h m) (X : (Mine.hd.heap_39 w.params).In h₀) (N : News h₀ L h news) (hu : A.units + 64 < cLine)
    (H : Q (.bool false) ⟨h, g, d, tk, o⟩) : wpAny (model prog w) A (compareOp .NotEq (.ref a) (.ref b)) Q E ⟨h, g, d, tk, o⟩ := by
  have R := readsAll_T hal F X N
  refine ne_dataH_same (da := .list (us.map fun u => (fm low u).d)) (db := .list (us.map fun u => (fm low u).d)) (Reads.list (N _ h1).1 rfl rfl (by simpa using R)) (Reads.list (N _ h2).1 rfl rfl (by simpa using R)) (shaped_list us low) (shaped_list us low) hu ?_ (by rw [PySem.Spec.same_self]; exact H)
  show PySem.SeqAt.noMixAll _ _ = true
  clear R hal
  induction us with
  | nil => rfl
  | cons u r ih => rw [List.map_cons, PySem.SeqAt.noMixAll, T4.noMix_d, ih]; rfl
end
theorem Tn.cons {w : World} {news : List (Addr × Obj)} {p : Addr × Obj} {v : Value} {t : T4} (h : Tn w news v t) : Tn w (p :: news) v t := h.mono sub_cons
theorem Tn.app {w : World} {news tl : List (Addr × Obj)} {v : Value} {t : T4} (h : Tn w news v t) : Tn w (news ++ tl) v t := h.mono sub_app
theorem Tn.zero {w : World} {news : List (Addr × Obj)} {r : Addr} {low : Int} {k1 k2 k3 k4 : Tok} : Tn w ((r, { cls := .type "tuple", data := .seq [Value.int 0 k1, .int 0 k2, .int 0 k3, .int 0 k4].toArray }) :: news) (.ref r) (fm low 0) :=
  Tn.of_eq (by rw [fm_zero])
end Mine

-- C12
set_option maxRecDepth 100000
namespace Mine
open PySem PySem.W PyProof.Rows PySem.Spec PySem.Calls
-- the walk's own lines: each step's token and heap named anew
local macro_rules | `(tactic| walk_at "binaryOp Add int int") => `(tactic| (with_reducible refine add_T ?_; intro _ _))
local macro_rules | `(tactic| walk_at "binaryOp Sub int int") => `(tactic| (with_reducible refine sub_T ?_; intro _ _))
local macro_rules | `(tactic| walk_at "binaryOp BitAnd int int") => `(tactic| (with_reducible refine and_T ?_; intro _ _))
local macro_rules | `(tactic| walk_at "binaryOp BitXor int int") => `(tactic| (with_reducible refine xor_T ?_; intro _ _))
local macro_rules | `(tactic| walk_at "inplaceOp Add int int") => `(tactic| (with_reducible refine iadd_T ?_; intro _ _))
local macro_rules | `(tactic| walk_at "inplaceOp Sub int int") => `(tactic| (with_reducible refine isub_T ?_; intro _ _))
local macro_rules | `(tactic| walk_at "inplaceOp BitXor int int") => `(tactic| (with_reducible refine ixor_T ?_; intro _ _))
local macro_rules | `(tactic| walk_at "binaryOp RShift int int") => `(tactic| ((with_reducible refine rsh_T ?_ ?_); omega; intro _ _))
local macro_rules | `(tactic| walk_at "inplaceOp RShift int int") => `(tactic| ((with_reducible refine irsh_T ?_ ?_); omega; intro _ _))
local macro_rules | `(tactic| walk_at "binaryOp LShift int int") => `(tactic| ((with_reducible refine lsh_T ?_ ?_ ?_); omega; (try simp only [bits_one]); omega; intro _ _))
local macro_rules | `(tactic| walk_at "inplaceOp LShift int int") => `(tactic| ((with_reducible refine ilsh_T ?_ ?_ ?_); omega; (try simp only [bits_one]); omega; intro _ _))
local macro_rules | `(tactic| walk_at "unaryOp USub int") => `(tactic| (with_reducible refine neg_T ?_; intro _ _))
local macro_rules | `(tactic| walk_at "call builtin:int.bit_length") => `(tactic| (with_reducible refine bits_T ?_; intro _ _))
local macro_rules | `(tactic| walk_at "eval Constant int") => `(tactic| (with_reducible refine const_T ?_; intro _ _))
local macro_rules | `(tactic| walk_at "storeName") => `(tactic| (k_here; k_dflt (refine' store_T ?F ?N ?_ ?a ?b; (case F => k_asm); (case N => k_asm); (case a => rfl); (case b => rfl); k_whole); intro h' tk' F' N'; (try k_sweep)))
local macro_rules | `(tactic| walk_at "newTuple") => `(tactic| (k_here; k_dflt (refine' tuple_T ?F ?N ?s ?_; (case F => k_asm); (case N => k_asm); (case s => decide); k_whole); intro h' r' F' N'; (try k_sweep)))
local macro_rules | `(tactic| walk_at "assign Tuple") => `(tactic| (k_here; (with_reducible show wpAny _ _ (assign (Expr.Tuple _ _ _) _ (Value.ref _)) _ _ _); k_dflt (refine' unpack_T ?B ?F ?X ?N ?a ?b ?c ?_; (case F => k_asm); (case X => k_asm); (case N => k_asm); (case B => (repeat (first | assumption | with_reducible exact Bears.here | exact finfB _ _ | exact fninfB _ _ | exact fzeroB _ _ | with_reducible refine Bears.cons ?_ | with_reducible refine Bears.app ?_))); (case a => rfl); (case b => rfl); (case c => rfl); k_whole); intro h' F' N'; (try k_sweep)))
local macro_rules | `(tactic| walk_at "ite") => `(tactic| with_reducible first
  | (refine dec_split ?_ ?_ <;> intro _) | (refine bne_split ?_ ?_ <;> intro _) | (refine beq_split ?_ ?_ <;> intro _))
local macro_rules | `(tactic| walk_at "compareOp Eq ref ref") => `(tactic| (k_here; k_dflt (first
  | (refine' eq_T ?B ?C ?F ?X ?N ?u ?_; (case F => k_asm); (case X => k_asm); (case N => k_asm); (case B => (repeat (first | assumption | with_reducible exact Bears.here | exact finfB _ _ | exact fninfB _ _ | exact fzeroB _ _ | with_reducible refine Bears.cons ?_ | with_reducible refine Bears.app ?_))); (case C => (repeat (first | assumption | with_reducible exact Bears.here | exact finfB _ _ | exact fninfB _ _ | exact fzeroB _ _ | with_reducible refine Bears.cons ?_ | with_reducible refine Bears.app ?_))); (case u => ((try dsimp only [Around.deeper, Around.in1, ktrTop]); omega)); k_whole)
  | (refine' eqL_T ?B ?C ?F ?X ?N ?u ?_; (case F => k_asm); (case X => k_asm); (case N => k_asm); (case B => (repeat (first | assumption | with_reducible exact Bears.here | exact finfB _ _ | exact fninfB _ _ | exact fzeroB _ _ | with_reducible refine Bears.cons ?_ | with_reducible refine Bears.app ?_))); (case C => (repeat (first | assumption | with_reducible exact Bears.here | exact finfB _ _ | exact fninfB _ _ | exact fzeroB _ _ | with_reducible refine Bears.cons ?_ | with_reducible refine Bears.app ?_))); (case u => ((try dsimp only [Around.deeper, Around.in1, ktrTop]); omega)); k_whole))))
local macro_rules | `(tactic| walk_at "compareOp NotEq ref ref") => `(tactic| (k_here; k_dflt (refine' ne_T ?B ?C ?F ?X ?N ?u ?_; (case F => k_asm); (case X => k_asm); (case N => k_asm); (case B => (repeat (first | assumption | with_reducible exact Bears.here | exact finfB _ _ | exact fninfB _ _ | exact fzeroB _ _ | with_reducible refine Bears.cons ?_ | with_reducible refine Bears.app ?_))); (case C => (repeat (first | assumption | with_reducible exact Bears.here | exact finfB _ _ | exact fninfB _ _ | exact fzeroB _ _ | with_reducible refine Bears.cons ?_ | with_reducible refine Bears.app ?_))); (case u => ((try dsimp only [Around.deeper, Around.in1, ktrTop]); omega)); k_whole)))
local macro_rules | `(tactic| walk_at "subscriptTail") => `(tactic| (k_here; (with_reducible show wpAny _ _ (subscriptTail _ _ (Value.ref _) (Value.int _ _)) _ _ _); k_dflt (refine' item_T ?B ?F ?X ?N ?i ?x ?_ ?s; (case F => k_asm); (case X => k_asm); (case N => k_asm); (case B => (repeat (first | assumption | with_reducible exact Bears.here | exact finfB _ _ | exact fninfB _ _ | exact fzeroB _ _ | with_reducible refine Bears.cons ?_ | with_reducible refine Bears.app ?_))); (case i => omega); (case x => rfl); (case s => with_unfolding_all rfl); k_whole)))
local macro_rules | `(tactic| walk_at "binaryOp Pow int int") => `(tactic| ((with_reducible refine pow_T ?_ ?_ ?_ ?_); omega; omega; omega; intro _ _))
local macro_rules | `(tactic| walk_at "ite") => `(tactic| with_reducible first
  | (refine eqb_tt (by assumption) ?_) | (refine eqb_ff (by assumption) ?_) | (refine eqb_ff_e (by (dsimp only; omega)) ?_))
local macro_rules | `(tactic| walk_at "ite") => `(tactic| with_reducible first
  | (refine dec_tt (by omega) ?_) | (refine dec_ff (by omega) ?_) | (refine bne_tt (by omega) ?_) | (refine bne_ff (by omega) ?_) | (refine beq_tt (by omega) ?_) | (refine beq_ff (by omega) ?_) | (refine not_ite ?_))
local macro_rules | `(tactic| walk_at "eval Name") => `(tactic| (k_here; k_dflt (refine' name_G ?F ?X ?T ?e ?_ ?a ?b ?c; (case F => k_asm); (case X => k_asm); (case T => k_asm); (case e => k_is); (case b => kernel_rfl);  (case a => rfl); (case c => kernel_rfl); k_whole)))
local macro_rules | `(tactic| walk_at "eval Name") => `(tactic| (k_here; k_dflt (refine' name_T ?F ?v ?_ ?a ?b ?c; (case F => k_asm); (case v => (first | with_reducible exact look_here | with_reducible assumption | (simp only [ofString_eq, mapOf, String.reduceEq, ↓reduceIte] <;> first | rfl | with_reducible assumption))); (case b => kernel_rfl); (case a => rfl); (case c => kernel_rfl); k_whole)))
local macro_rules | `(tactic| walk_at "loadName") => `(tactic| (k_here; k_dflt (refine' loadn_T ?F ?v ?_ ?a ?b; (case F => k_asm); (case v => (first | with_reducible exact look_here | with_reducible assumption | (simp only [ofString_eq, mapOf, String.reduceEq, ↓reduceIte] <;> first | rfl | with_reducible assumption))); (case b => kernel_rfl); (case a => rfl); k_whole)))
local macro_rules | `(tactic| walk_at "exec If") => `(tactic| with_reducible refine wpAny_If ?_)
local macro_rules | `(tactic| walk_at "exec For Name Name cons nil") => `(tactic| (refine Stop.intro ?_))
local macro_rules | `(tactic| walk_at "exec For Name Call cons nil") => `(tactic| (refine Stop.intro ?_))
local macro_rules | `(tactic| walk_at "exec While Compare cons nil") => `(tactic| (refine Stop.intro ?_))
local macro_rules | `(tactic| walk_at "exec While BoolOp cons nil") => `(tactic| (refine Stop.intro ?_))
local macro_rules | `(tactic| walk_at "call builtin:isinstance") => `(tactic| (k_here; (with_reducible show wpAny _ _ (call (Value.builtin "isinstance") [Value.ref _, Value.type "tuple"]) _ _ _); k_dflt (refine' isi_T ?B ?F ?X ?N ?_; (case F => k_asm); (case X => k_asm); (case N => k_asm); (case B => (repeat (first | assumption | with_reducible exact Bears.here | exact finfB _ _ | exact fninfB _ _ | exact fzeroB _ _ | with_reducible refine Bears.cons ?_ | with_reducible refine Bears.app ?_))); k_whole)))
local macro_rules | `(tactic| walk_at "call builtin:len") => `(tactic| (k_here; (with_reducible show wpAny _ _ (call (Value.builtin "len") [Value.ref _]) _ _ _); k_dflt (refine' len_T ?B ?F ?X ?N ?_; (case F => k_asm); (case X => k_asm); (case N => k_asm); (case B => (repeat (first | assumption | with_reducible exact Bears.here | exact finfB _ _ | exact fninfB _ _ | exact fzeroB _ _ | with_reducible refine Bears.cons ?_ | with_reducible refine Bears.app ?_))); k_whole); intro _ _))
local macro_rules | `(tactic| walk_at "call builtin:divmod") => `(tactic| (k_here; k_dflt (refine' divmod_T ?F ?N ?b ?p ?_; (case F => k_asm); (case N => k_asm); (case b => first | with_reducible assumption | omega); (case p => with_reducible assumption); k_whole); intro h' r' t1' t2' tk' F' N'; (try k_sweep)))
local macro_rules | `(tactic| walk_at "inplaceOp FloorDiv int int") => `(tactic| ((with_reducible refine ifdiv_T ?_ ?_ ?_); decide; decide +kernel; intro _ _))
local macro_rules | `(tactic| walk_at "binaryOp Mod int int") => `(tactic| ((with_reducible refine mod_T ?_ ?_); omega; intro _ _))
local macro_rules | `(tactic| walk_at "subscriptTail") => `(tactic| (k_here; (with_reducible show wpAny _ _ (subscriptTail _ _ (Value.ref _) (Value.int _ _)) _ _ _); k_dflt (refine' litem_T ?M ?N ?a ?b ?x ?_ ?s; (case N => k_asm); (case M => (repeat (first | with_reducible assumption | with_reducible exact List.mem_cons_self | with_reducible refine List.mem_cons_of_mem _ ?_ | with_reducible refine List.mem_append_left _ ?_ | (refine Kept.oth (by with_reducible assumption) _ ?_ ?_; rotate_left; with_reducible assumption)))); (case a => omega); (case b => omega); (case x => with_reducible assumption); (case s => with_unfolding_all rfl); k_whole)))
local macro_rules | `(tactic| walk_at "subscriptTail") => `(tactic| (k_here; (with_reducible show wpAny _ _ (subscriptTail _ _ (Value.ref _) (Value.int (-1) _)) _ _ _); k_dflt (refine' litemN_T ?M ?N ?a ?b ?x ?_ ?s; (case N => k_asm); (case M => (repeat (first | with_reducible assumption | with_reducible exact List.mem_cons_self | with_reducible refine List.mem_cons_of_mem _ ?_ | with_reducible refine List.mem_append_left _ ?_ | (refine Kept.oth (by with_reducible assumption) _ ?_ ?_; rotate_left; with_reducible assumption)))); (case a => rfl); (case b => omega); (case x => with_reducible assumption); (case s => with_unfolding_all rfl); k_whole)))
local macro_rules | `(tactic| walk_at "truthy ref") => `(tactic| (k_here; k_dflt (refine' ltruthy_T ?M ?N ?z ?_; (case N => k_asm); (case M => (repeat (first | with_reducible assumption | with_reducible exact List.mem_cons_self | with_reducible refine List.mem_cons_of_mem _ ?_ | with_reducible refine List.mem_append_left _ ?_ | (refine Kept.oth (by with_reducible assumption) _ ?_ ?_; rotate_left; with_reducible assumption)))); (case z => first | omega | (simp only [List.length_append, List.length_cons, List.length_nil]; omega)); k_whole); intro _))
local macro_rules | `(tactic| walk_at "call builtin:len") => `(tactic| (k_here; (with_reducible show wpAny _ _ (call (Value.builtin "len") [Value.ref _]) _ _ _); k_dflt (refine' llen_T ?M ?N ?z ?_; (case N => k_asm); (case M => (repeat (first | with_reducible assumption | with_reducible exact List.mem_cons_self | with_reducible refine List.mem_cons_of_mem _ ?_ | with_reducible refine List.mem_append_left _ ?_ | (refine Kept.oth (by with_reducible assumption) _ ?_ ?_; rotate_left; with_reducible assumption)))); (case z => first | omega | (simp only [List.length_append, List.length_cons, List.length_nil]; omega)); k_whole); intro _ _))
local macro_rules | `(tactic| walk_at "call builtin:list.append") => `(tactic| (k_here; (with_reducible show wpAny _ _ (call (Value.builtin _) [Value.ref _, _]) _ _ _); k_dflt (refine' append_T (w := _) ?M ?F ?N ?z ?_; (case F => k_asm); (case N => k_asm); (case M => (repeat (first | with_reducible assumption | with_reducible exact List.mem_cons_self | with_reducible refine List.mem_cons_of_mem _ ?_ | with_reducible refine List.mem_append_left _ ?_ | (refine Kept.oth (by with_reducible assumption) _ ?_ ?_; rotate_left; with_reducible assumption)))); (case z => first | omega | (simp only [List.length_append, List.length_cons, List.length_nil]; omega))); intro h' nw' F' N' hin' hk'; (try k_sweep)))
local macro_rules | `(tactic| walk_at "call type:list") => `(tactic| (k_here; (with_reducible show wpAny _ _ (call (Value.type _) [Value.ref _]) _ _ _); k_dflt (refine' lcopy_T ?M ?F ?N ?z ?_; (case F => k_asm); (case N => k_asm); (case M => (repeat (first | with_reducible assumption | with_reducible exact List.mem_cons_self | with_reducible refine List.mem_cons_of_mem _ ?_ | with_reducible refine List.mem_append_left _ ?_ | (refine Kept.oth (by with_reducible assumption) _ ?_ ?_; rotate_left; with_reducible assumption)))); (case z => first | omega | (simp only [List.length_append, List.length_cons, List.length_nil]; omega)); k_whole); intro h' D' c' F' N' hne'; (try k_sweep)))
local macro_rules | `(tactic| walk_at "newList") => `(tactic| (k_here; k_dflt (refine' newlist_T ?F ?N ?_; (case F => k_asm); (case N => k_asm); k_whole); intro h' D' F' N' hne'; (try k_sweep)))
local macro_rules | `(tactic| walk_at "subscriptTail") => `(tactic| (k_here; (with_reducible show wpAny _ _ (subscriptTail _ _ (Value.ref _) (Value.ref _)) _ _ _); k_dflt (with_unfolding_all refine' slice_T ?M ?F ?N ?a ?z ?_ ?s ?t; (case F => k_asm); (case N => k_asm); (case M => (repeat (first | with_reducible assumption | with_reducible exact List.mem_cons_self | with_reducible refine List.mem_cons_of_mem _ ?_ | with_reducible refine List.mem_append_left _ ?_ | (refine Kept.oth (by with_reducible assumption) _ ?_ ?_; rotate_left; with_reducible assumption)))); (case a => omega); (case z => first | omega | (simp only [List.length_append, List.length_cons, List.length_nil]; omega)); (case s => with_unfolding_all rfl); (case t => intro _; with_unfolding_all rfl); k_whole); intro h' D' F' N' hne'; (try k_sweep)))
local macro_rules | `(tactic| walk_at "call ref") => `(tactic| (k_here; (with_reducible show wpAny _ _ (call (Value.ref 121) _) _ _ _); k_dflt (refine' DrawGives.use (g_draw _ _ _ _ _ _ _ ?hi ?hl ?i0 ?i1 ?n0 ?n1) ?hL ?B ?F ?X ?N ?T ?hk ?hd ?hu ?_; (case hL => k_asm); (case hi => first | k_asm | exact Hid.un (by with_reducible assumption)); (case hl => with_reducible assumption); (case i0 => omega); (case i1 => omega); (case n0 => omega); (case n1 => omega); (case B => k_asm); (case F => k_asm); (case X => k_asm); (case N => k_asm); (case T => k_asm); (case hk => rfl); (case hd => ((try dsimp only [Around.deeper, Around.in1, ktrTop]); omega)); (case hu => ((try dsimp only [Around.deeper, Around.in1, ktrTop]); omega)); k_whole); intro k' t' h' tk' F' N' hk1' hk2'; (try dsimp only); (try k_sweep)))
local macro_rules | `(tactic| walk_at "getMethod ref") => `(tactic| (k_here; (with_reducible show wpAny _ _ (getMethod (Value.ref _) (Str.ofString "append") _) _ _ _); k_dflt (refine' methA_T ?M ?N ?_; (case N => k_asm); (case M => (repeat (first | with_reducible assumption | with_reducible exact List.mem_cons_self | with_reducible refine List.mem_cons_of_mem _ ?_ | with_reducible refine List.mem_append_left _ ?_ | (refine Kept.oth (by with_reducible assumption) _ ?_ ?_; rotate_left; with_reducible assumption)))); k_whole)))
local macro_rules | `(tactic| walk_at "binaryOp Mult int int") => `(tactic| ((with_reducible refine mul_T ?_ ?_); intro _ _; rotate_left; first | exact IntMulOk.of_left (by decide) | exact mulOk_small (by omega) (by omega)))
local macro_rules | `(tactic| walk_at "binaryOp Mod int int") => `(tactic| ((with_reducible refine modP_T ?_ ?_); (first | omega | with_reducible assumption); intro r' _ _ hr' hr1' hr2'))

local macro_rules | `(tactic| walk_at "call type:range") => `(tactic| (k_here; (with_reducible show wpAny _ _ (call (Value.type "range") [Value.int _ _]) _ _ _); k_dflt (refine' range1_T ?F ?N ?_; (case F => k_asm); (case N => k_asm); k_whole); intro h' r' tk' t1' u1' v1' R' F' N'; (try k_sweep)))
local macro_rules | `(tactic| walk_at "call type:range") => `(tactic| (k_here; (with_reducible show wpAny _ _ (call (Value.type "range") [Value.int _ _, Value.int _ _]) _ _ _); k_dflt (refine' range2_T ?F ?N ?_; (case F => k_asm); (case N => k_asm); k_whole); intro h' r' tk' t1' u1' v1' R' F' N'; (try k_sweep)))
local macro_rules | `(tactic| walk_at "pyIter ref") => `(tactic| (refine Stop.intro ?_))
local macro_rules | `(tactic| walk_at "assign Tuple") => `(tactic| (k_here; (with_reducible show wpAny _ _ (assign (Expr.Tuple [_, _] _ _) _ (Value.ref _)) _ _ _); k_dflt (refine' unpack2_T ?B ?F ?X ?N ?a ?b ?c ?_; (case F => k_asm); (case X => k_asm); (case N => k_asm); (case B => (repeat (first | with_reducible assumption | with_reducible exact Bears.here | with_reducible refine Bears.cons ?_ | with_reducible refine Bears.app ?_))); (case a => rfl); (case b => rfl); (case c => rfl); k_whole); intro h' F' N'; (try k_sweep)))
local macro_rules | `(tactic| walk_at "compareOp NotEq ref ref") => `(tactic| (k_here; k_dflt (refine' lne_T ?M ?C ?A ?F ?X ?N ?u ?_; (case F => k_asm); (case X => k_asm); (case N => k_asm); (case M => (repeat (first | with_reducible assumption | with_reducible exact List.mem_cons_self | with_reducible refine List.mem_cons_of_mem _ ?_ | with_reducible refine List.mem_append_left _ ?_))); (case C => (repeat (first | with_reducible assumption | with_reducible exact List.mem_cons_self | with_reducible refine List.mem_cons_of_mem _ ?_ | with_reducible refine List.mem_append_left _ ?_))); (case A => (repeat (first | with_reducible assumption | with_reducible apply AllT.app | with_reducible apply AllT.cons))); (case u => ((try dsimp only [Around.deeper, Around.in1, ktrTop]); omega)); k_whole)))
local macro_rules | `(tactic| walk_at "call ref") => `(tactic| (k_here; (with_reducible show wpAny _ _ (call (Value.ref 52) _) _ _ _); k_dflt (refine' MGives.use (g_fme _ _ _ _) ?B ?F ?X ?N ?T ?hk ?hd ?hu ?_ ?mo; (case B => k_asm); (case F => k_asm); (case X => k_asm); (case N => k_asm); (case T => k_asm); (case hk => rfl); (case hd => ((try dsimp only [Around.deeper, Around.in1, ktrTop]); omega)); (case hu => ((try dsimp only [Around.deeper, Around.in1, ktrTop]); omega)); (case mo => exact fun _ _ _ hs ht => Tn.mono ht hs); k_whole); intro r' tl' h' tk' F' N' ho'; (obtain ⟨a', k1', k2', k3', k4', n', e', hB'⟩ := ho'); subst e'; (try dsimp only); (try k_sweep)))
local macro_rules | `(tactic| walk_at "call ref") => `(tactic| (k_here; (with_reducible show wpAny _ _ (call (Value.ref 68) _) _ _ _); k_dflt (refine' MGives.use (g_neg _ _ ?ta ?ib) ?B ?F ?X ?N ?T ?hk ?hd ?hu ?_ ?mo; (case B => k_asm); (case F => k_asm); (case X => k_asm); (case N => k_asm); (case T => k_asm); (case hk => rfl); (case hd => ((try dsimp only [Around.deeper, Around.in1, ktrTop]); omega)); (case hu => ((try dsimp only [Around.deeper, Around.in1, ktrTop]); omega)); (case mo => exact fun _ _ _ hs ht => Tn.mono ht hs); (case ta => first | with_reducible assumption | exact Tn.of_bears (by (repeat (first | with_reducible assumption | with_reducible exact Bears.here | with_reducible refine Bears.cons ?_ | with_reducible refine Bears.app ?_))) rfl); (case ib => first | with_reducible assumption | exact fun h9 => by omega); k_whole); intro r' tl' h' tk' F' N' ho'; (obtain ⟨a', k1', k2', k3', k4', n', e', hB'⟩ := ho'); subst e'; (try dsimp only); (try k_sweep)))
theorem fin_at {w : World} {news tl nw1 nw : List (Addr × Obj)} {low M A : Int} {vs : List Value} {us : List Int} {r xsA unA : Addr} {k1 k2 k3 k4 : Tok} {n : Nat} (hal : AllT w news low vs us)
    (hk2 : Kept w unA nw1 nw) (hk1 : Kept w xsA (news ++ tl) nw1) (hB : Bears w (news ++ tl) r (tobj (fme M (low + A)) k1 k2 k3 k4 n)) (hA : 0 ≤ A) : AllT w nw low (vs ++ [.ref r]) (us ++ [M * (1 * 2 ^ A.toNat)]) :=
  (hk2.all (hk1.all (hal.mono sub_app))).push (hk2.tn _ _ (hk1.tn _ _ (Tn.of_bears hB (by rw [fm_at hA]; rfl))))
theorem fin_neg {w : World} {news tl nw1 nw : List (Addr × Obj)} {low u : Int} {vs : List Value} {us : List Int} {r xsA unA : Addr} {k1 k2 k3 k4 : Tok} {n : Nat} (hal : AllT w news low vs us)
    (hk2 : Kept w unA nw1 nw) (hk1 : Kept w xsA (news ++ tl) nw1) (hB : Bears w (news ++ tl) r (tobj (if (fm low u).m = 0 then fm low u else ⟨1 - (fm low u).s, (fm low u).m, (fm low u).e, (fm low u).b⟩) k1 k2 k3 k4 n)) : AllT w nw low (vs ++ [.ref r]) (us ++ [-u]) :=
  (hk2.all (hk1.all (hal.mono sub_app))).push (hk2.tn _ _ (hk1.tn _ _ (Tn.of_bears hB (fm_neg _ _))))
theorem good_pos {pv r A : Int} (p0 : 3 ≤ pv) (p1 : pv ≤ 16) (h1 : 0 ≤ r) (h2 : r < 1 * 2 ^ pv.toNat) (ha : 0 ≤ A) (ha2 : A ≤ 180) : GoodU pv (r * (1 * 2 ^ A.toNat)) :=
  GoodU.at (by omega) p1 (by omega) h2 ha ha2
theorem good_neg {pv r A : Int} (p0 : 3 ≤ pv) (p1 : pv ≤ 16) (h1 : 0 ≤ r) (h2 : r < 1 * 2 ^ pv.toNat) (ha : 0 ≤ A) (ha2 : A ≤ 180) : GoodU pv (-r * (1 * 2 ^ A.toNat)) :=
  GoodU.at (by omega) p1 (by omega) (by omega) ha ha2
-- the written part, for this file
theorem fill_C12 (w : World) : True := by
  refine fill_K w ?_
  k_fill
  intro _ _
  trivial

set_option maxHeartbeats 40000000 in
theorem l1_turn {w : World} {fa : Addr} {p : Program} {loose : List Str} {mean : ExcName → Option Value} {mg mb : Str → Option Value} {dp un : Nat} {gd : Option (List Code)} {ccd : Value} {outer : List Env} {A₀ : Around} {base h₀ : Heap} {L : Addr} {m : Str → Option Value} {news : List (Addr × Obj)} {Q : Flow → Shared → Prop} {E : Value → Shared → Prop} {h : Heap} {g : Array GenState} {d : Drawn} {tk : Nat} {o : OsState} {l : Addr} {vs0 : List Value} {ns : List Int} (B : Below A₀ base outer h₀) (F : Fr h₀ L h m) (X : (Mine.hd.heap_39 w.params).In h₀) (N : News h₀ L h news) (T : Top p loose mean mg mb h₀) (hd : dp + 40 < recursionLimit) (hu : un + 400 < cLine) (hL : base.IsList l vs0.toArray) (hi : IntsAre vs0 ns) (hlen : ns.length ≤ 63) {pv low i : Int} {xsA unA : Addr} {vs uvs : List Value} {us : List Int} {n1 n2 : Nat} {s1 s2 s3 : Tok}
    (p0 : 3 ≤ pv) (p1 : pv ≤ 16) (l0 : -20 ≤ low) (l1 : low ≤ 20) (i0 : 0 ≤ i) (i1 : i < 5)
    (j1 : m (Str.ofString "script") = some (.ref l)) (j2 : m (Str.ofString "p") = some (.int pv s1)) (j3 : m (Str.ofString "low") = some (.int low s2)) (j4 : m (Str.ofString "xs") = some (.ref xsA)) (j5 : m (Str.ofString "units") = some (.ref unA)) (j6 : m (Str.ofString "i") = some (.int i s3))
    (k1 : (xsA, listOf vs.toArray n1) ∈ news) (k2 : (unA, listOf uvs.toArray n2) ∈ news) (hne : xsA ≠ unA) (hne' : unA ≠ xsA) (hui : IntsAre uvs us) (hal : AllT w news low vs us) (hln : us.length ≤ 5)
    (hgood : ∀ u ∈ us, GoodU pv u)
    (hQ : ∀ h' tk' m' nf v u tu, Fr h₀ L h' m' → News h₀ L h' nf → m' (Str.ofString "script") = some (.ref l) → (∃ t, m' (Str.ofString "p") = some (.int pv t)) → (∃ t, m' (Str.ofString "low") = some (.int low t)) → m' (Str.ofString "xs") = some (.ref xsA) → m' (Str.ofString "units") = some (.ref unA) →
      (xsA, listOf (vs ++ [v]).toArray (n1 + 1)) ∈ nf → (unA, listOf (uvs ++ [Value.int u tu]).toArray (n2 + 1)) ∈ nf → AllT w nf low (vs ++ [v]) (us ++ [u]) → GoodU pv u → (∀ q ∈ news, isTL q.2 = false → q ∈ nf) → Q .next ⟨h', g, d, tk', o⟩) :
    wpAny (model PySem.Challenge.rw_aa5008_01.prog w) (ktrTop dp un gd (Str.ofString "law") (lawScope w) L fa ccd [] outer) (execs (forBody (stAt (lawBody w) 3)) (envOf (Str.ofString "law") (lawScope w) L fa ccd)) Q E ⟨h, g, d, tk, o⟩ := by
  have hlv : vs.length ≤ 5 := by rw [hal.1]; exact hln
  have hlw : uvs.length = vs.length := by rw [hal.1, hui.length]
  have hlu : uvs.length ≤ 5 := by rw [hui.length]; exact hln
  have hpz : (0 : Int) < 1 * 2 ^ pv.toNat := by
    have := PySem.W.kbt_pos pv.toNat
    omega
  have hp16 : (1 * 2 ^ pv.toNat : Int) ≤ 65536 := by
    rw [Int.one_mul, ← PySem.W.kbt_cast]
    have h9 : 2 ^ pv.toNat ≤ 2 ^ 16 := pow_le_of (by omega)
    have h8 : 2 ^ 16 = 65536 := rfl
    omega
  have b1 := bits_one
  by_cases hemp : vs.length = 0
  · with_unfolding_all (conv in (execs _ _) => arg 1; whnf)
    show wpAny _ _ _ _ _ _
    (try k_fold)
    k_steps
    all_goals refine hQ _ _ _ _ _ _ _ (by k_asm) (by k_asm) (by (first | with_reducible exact look_here | with_reducible assumption | (simp only [ofString_eq, mapOf, String.reduceEq, ↓reduceIte] <;> first | rfl | with_reducible assumption))) ⟨_, by (first | with_reducible exact look_here | with_reducible assumption | (simp only [ofString_eq, mapOf, String.reduceEq, ↓reduceIte] <;> first | rfl | with_reducible assumption))⟩ ⟨_, by (first | with_reducible exact look_here | with_reducible assumption | (simp only [ofString_eq, mapOf, String.reduceEq, ↓reduceIte] <;> first | rfl | with_reducible assumption))⟩ (by (first | with_reducible exact look_here | with_reducible assumption | (simp only [ofString_eq, mapOf, String.reduceEq, ↓reduceIte] <;> first | rfl | with_reducible assumption))) (by (first | with_reducible exact look_here | with_reducible assumption | (simp only [ofString_eq, mapOf, String.reduceEq, ↓reduceIte] <;> first | rfl | with_reducible assumption))) (Kept.oth (by with_reducible assumption) _ (by with_reducible assumption) hne) (by with_reducible assumption) ?_ ?_ (fun q hq hc => Kept.non (by with_reducible assumption) q (Kept.non (by with_reducible assumption) q (sub_app q hq) hc) hc)
    all_goals first
      | with_reducible exact good_pos p0 p1 (by with_reducible assumption) (by with_reducible assumption) (by omega) (by omega)
      | with_reducible exact good_neg p0 p1 (by with_reducible assumption) (by with_reducible assumption) (by omega) (by omega)
      | with_reducible exact (hgood _ hulm).neg
      | with_reducible exact fin_at hal (by with_reducible assumption) (by with_reducible assumption) (by with_reducible assumption) (by omega)
      | with_reducible exact fin_neg hal (by with_reducible assumption) (by with_reducible assumption) (by with_reducible assumption)
  · obtain ⟨va, u1, u2, u3, u4, un, ul, ult, hx, hxb, hxu, hulm⟩ : ∃ va u1 u2 u3 u4 un ul ult, vs[vs.length - 1]? = some (Value.ref va) ∧ Bears w news va (tobj (fm low ul) u1 u2 u3 u4 un) ∧ uvs[uvs.length - 1]? = some (Value.int ul ult) ∧ ul ∈ us := by
      have hlt : vs.length - 1 < us.length := by rw [← hal.1]; omega
      have hlt2 : vs.length - 1 < vs.length := by omega
      have e1 : vs[vs.length - 1]? = some vs[vs.length - 1] := by simp [hlt2]
      obtain ⟨u, hu1, va, a1, a2, a3, a4, an, hv, hb⟩ := hal.get e1
      obtain ⟨tu, hxu⟩ := hui.get (vs.length - 1) u hu1
      have e2 : uvs.length - 1 = vs.length - 1 := by rw [hal.1, hui.length]
      exact ⟨va, a1, a2, a3, a4, an, u, tu, by rw [e1, hv], hb, by rw [e2]; exact hxu, List.mem_of_getElem? hu1⟩
    have hz9 := (fm_is low ul).z'
    with_unfolding_all (conv in (execs _ _) => arg 1; whnf)
    show wpAny _ _ _ _ _ _
    (try k_fold)
    k_steps
    all_goals refine hQ _ _ _ _ _ _ _ (by k_asm) (by k_asm) (by (first | with_reducible exact look_here | with_reducible assumption | (simp only [ofString_eq, mapOf, String.reduceEq, ↓reduceIte] <;> first | rfl | with_reducible assumption))) ⟨_, by (first | with_reducible exact look_here | with_reducible assumption | (simp only [ofString_eq, mapOf, String.reduceEq, ↓reduceIte] <;> first | rfl | with_reducible assumption))⟩ ⟨_, by (first | with_reducible exact look_here | with_reducible assumption | (simp only [ofString_eq, mapOf, String.reduceEq, ↓reduceIte] <;> first | rfl | with_reducible assumption))⟩ (by (first | with_reducible exact look_here | with_reducible assumption | (simp only [ofString_eq, mapOf, String.reduceEq, ↓reduceIte] <;> first | rfl | with_reducible assumption))) (by (first | with_reducible exact look_here | with_reducible assumption | (simp only [ofString_eq, mapOf, String.reduceEq, ↓reduceIte] <;> first | rfl | with_reducible assumption))) (Kept.oth (by with_reducible assumption) _ (by with_reducible assumption) hne) (by with_reducible assumption) ?_ ?_ (fun q hq hc => Kept.non (by with_reducible assumption) q (Kept.non (by with_reducible assumption) q (sub_app q hq) hc) hc)
    all_goals first
      | with_reducible exact good_pos p0 p1 (by with_reducible assumption) (by with_reducible assumption) (by omega) (by omega)
      | with_reducible exact good_neg p0 p1 (by with_reducible assumption) (by with_reducible assumption) (by omega) (by omega)
      | with_reducible exact (hgood _ hulm).neg
      | with_reducible exact fin_at hal (by with_reducible assumption) (by with_reducible assumption) (by with_reducible assumption) (by omega)
      | with_reducible exact fin_neg hal (by with_reducible assumption) (by with_reducible assumption) (by with_reducible assumption)
end Mine

-- C13
set_option maxRecDepth 100000
namespace Mine
open PySem PySem.W PyProof.Rows PySem.Spec PySem.Calls
local macro_rules | `(tactic| walk_at "never 0") => `(tactic| fail "never")
local macro_rules | `(tactic| walk_at "never 1") => `(tactic| fail "never")
local macro_rules | `(tactic| walk_at "never 2") => `(tactic| fail "never")
-- the walk's own lines: each step's token and heap named anew
local macro_rules | `(tactic| walk_at "binaryOp Add int int") => `(tactic| (with_reducible refine add_T ?_; intro _ _))
local macro_rules | `(tactic| walk_at "binaryOp Sub int int") => `(tactic| (with_reducible refine sub_T ?_; intro _ _))
local macro_rules | `(tactic| walk_at "binaryOp BitAnd int int") => `(tactic| (with_reducible refine and_T ?_; intro _ _))
local macro_rules | `(tactic| walk_at "binaryOp BitXor int int") => `(tactic| (with_reducible refine xor_T ?_; intro _ _))
local macro_rules | `(tactic| walk_at "inplaceOp Add int int") => `(tactic| (with_reducible refine iadd_T ?_; intro _ _))
local macro_rules | `(tactic| walk_at "inplaceOp Sub int int") => `(tactic| (with_reducible refine isub_T ?_; intro _ _))
local macro_rules | `(tactic| walk_at "inplaceOp BitXor int int") => `(tactic| (with_reducible refine ixor_T ?_; intro _ _))
local macro_rules | `(tactic| walk_at "binaryOp RShift int int") => `(tactic| ((with_reducible refine rsh_T ?_ ?_); omega; intro _ _))
local macro_rules | `(tactic| walk_at "inplaceOp RShift int int") => `(tactic| ((with_reducible refine irsh_T ?_ ?_); omega; intro _ _))
local macro_rules | `(tactic| walk_at "binaryOp LShift int int") => `(tactic| ((with_reducible refine lsh_T ?_ ?_ ?_); omega; (try simp only [bits_one]); omega; intro _ _))
local macro_rules | `(tactic| walk_at "inplaceOp LShift int int") => `(tactic| ((with_reducible refine ilsh_T ?_ ?_ ?_); omega; (try simp only [bits_one]); omega; intro _ _))
local macro_rules | `(tactic| walk_at "unaryOp USub int") => `(tactic| (with_reducible refine neg_T ?_; intro _ _))
local macro_rules | `(tactic| walk_at "call builtin:int.bit_length") => `(tactic| (with_reducible refine bits_T ?_; intro _ _))
local macro_rules | `(tactic| walk_at "eval Constant int") => `(tactic| (with_reducible refine const_T ?_; intro _ _))
local macro_rules | `(tactic| walk_at "storeName") => `(tactic| (k_here; k_dflt (refine' store_T ?F ?N ?_ ?a ?b; (case F => k_asm); (case N => k_asm); (case a => rfl); (case b => rfl); k_whole); intro h' tk' F' N'; (try k_sweep)))
local macro_rules | `(tactic| walk_at "newTuple") => `(tactic| (k_here; k_dflt (refine' tuple_T ?F ?N ?s ?_; (case F => k_asm); (case N => k_asm); (case s => decide); k_whole); intro h' r' F' N'; (try k_sweep)))
local macro_rules | `(tactic| walk_at "assign Tuple") => `(tactic| (k_here; (with_reducible show wpAny _ _ (assign (Expr.Tuple _ _ _) _ (Value.ref _)) _ _ _); k_dflt (refine' unpack_T ?B ?F ?X ?N ?a ?b ?c ?_; (case F => k_asm); (case X => k_asm); (case N => k_asm); (case B => (repeat (first | assumption | with_reducible exact Bears.here | exact finfB _ _ | exact fninfB _ _ | exact fzeroB _ _ | with_reducible refine Bears.cons ?_ | with_reducible refine Bears.app ?_))); (case a => rfl); (case b => rfl); (case c => rfl); k_whole); intro h' F' N'; (try k_sweep)))
local macro_rules | `(tactic| walk_at "ite") => `(tactic| with_reducible first
  | (refine dec_split ?_ ?_ <;> intro _) | (refine bne_split ?_ ?_ <;> intro _) | (refine beq_split ?_ ?_ <;> intro _))
local macro_rules | `(tactic| walk_at "compareOp Eq ref ref") => `(tactic| (k_here; k_dflt (first
  | (refine' eq_T ?B ?C ?F ?X ?N ?u ?_; (case F => k_asm); (case X => k_asm); (case N => k_asm); (case B => (repeat (first | assumption | with_reducible exact Bears.here | exact finfB _ _ | exact fninfB _ _ | exact fzeroB _ _ | with_reducible refine Bears.cons ?_ | with_reducible refine Bears.app ?_))); (case C => (repeat (first | assumption | with_reducible exact Bears.here | exact finfB _ _ | exact fninfB _ _ | exact fzeroB _ _ | with_reducible refine Bears.cons ?_ | with_reducible refine Bears.app ?_))); (case u => ((try dsimp only [Around.deeper, Around.in1, ktrTop]); omega)); k_whole)
  | (refine' eqL_T ?B ?C ?F ?X ?N ?u ?_; (case F => k_asm); (case X => k_asm); (case N => k_asm); (case B => (repeat (first | assumption | with_reducible exact Bears.here | exact finfB _ _ | exact fninfB _ _ | exact fzeroB _ _ | with_reducible refine Bears.cons ?_ | with_reducible refine Bears.app ?_))); (case C => (repeat (first | assumption | with_reducible exact Bears.here | exact finfB _ _ | exact fninfB _ _ | exact fzeroB _ _ | with_reducible refine Bears.cons ?_ | with_reducible refine Bears.app ?_))); (case u => ((try dsimp only [Around.deeper, Around.in1, ktrTop]); omega)); k_whole))))
local macro_rules | `(tactic| walk_at "compareOp NotEq ref ref") => `(tactic| (k_here; k_dflt (refine' ne_T ?B ?C ?F ?X ?N ?u ?_; (case F => k_asm); (case X => k_asm); (case N => k_asm); (case B => (repeat (first | assumption | with_reducible exact Bears.here | exact finfB _ _ | exact fninfB _ _ | exact fzeroB _ _ | with_reducible refine Bears.cons ?_ | with_reducible refine Bears.app ?_))); (case C => (repeat (first | assumption | with_reducible exact Bears.here | exact finfB _ _ | exact fninfB _ _ | exact fzeroB _ _ | with_reducible refine Bears.cons ?_ | with_reducible refine Bears.app ?_))); (case u => ((try dsimp only [Around.deeper, Around.in1, ktrTop]); omega)); k_whole)))
local macro_rules | `(tactic| walk_at "subscriptTail") => `(tactic| (k_here; (with_reducible show wpAny _ _ (subscriptTail _ _ (Value.ref _) (Value.int _ _)) _ _ _); k_dflt (refine' item_T ?B ?F ?X ?N ?i ?x ?_ ?s; (case F => k_asm); (case X => k_asm); (case N => k_asm); (case B => (repeat (first | assumption | with_reducible exact Bears.here | exact finfB _ _ | exact fninfB _ _ | exact fzeroB _ _ | with_reducible refine Bears.cons ?_ | with_reducible refine Bears.app ?_))); (case i => omega); (case x => rfl); (case s => with_unfolding_all rfl); k_whole)))
local macro_rules | `(tactic| walk_at "binaryOp Pow int int") => `(tactic| ((with_reducible refine pow_T ?_ ?_ ?_ ?_); omega; omega; omega; intro _ _))
local macro_rules | `(tactic| walk_at "ite") => `(tactic| with_reducible first
  | (refine eqb_tt (by assumption) ?_) | (refine eqb_ff (by assumption) ?_) | (refine eqb_ff_e (by (dsimp only; omega)) ?_))
local macro_rules | `(tactic| walk_at "ite") => `(tactic| with_reducible first
  | (refine dec_tt (by omega) ?_) | (refine dec_ff (by omega) ?_) | (refine bne_tt (by omega) ?_) | (refine bne_ff (by omega) ?_) | (refine beq_tt (by omega) ?_) | (refine beq_ff (by omega) ?_) | (refine not_ite ?_))
local macro_rules | `(tactic| walk_at "eval Name") => `(tactic| (k_here; k_dflt (refine' name_G ?F ?X ?T ?e ?_ ?a ?b ?c; (case F => k_asm); (case X => k_asm); (case T => k_asm); (case e => k_is); (case b => kernel_rfl);  (case a => rfl); (case c => kernel_rfl); k_whole)))
local macro_rules | `(tactic| walk_at "eval Name") => `(tactic| (k_here; k_dflt (refine' name_T ?F ?v ?_ ?a ?b ?c; (case F => k_asm); (case v => (first | with_reducible exact look_here | with_reducible assumption | (simp only [ofString_eq, mapOf, String.reduceEq, ↓reduceIte] <;> first | rfl | with_reducible assumption))); (case b => kernel_rfl); (case a => rfl); (case c => kernel_rfl); k_whole)))
local macro_rules | `(tactic| walk_at "loadName") => `(tactic| (k_here; k_dflt (refine' loadn_T ?F ?v ?_ ?a ?b; (case F => k_asm); (case v => (first | with_reducible exact look_here | with_reducible assumption | (simp only [ofString_eq, mapOf, String.reduceEq, ↓reduceIte] <;> first | rfl | with_reducible assumption))); (case b => kernel_rfl); (case a => rfl); k_whole)))
local macro_rules | `(tactic| walk_at "exec If") => `(tactic| with_reducible refine wpAny_If ?_)
local macro_rules | `(tactic| walk_at "exec For Name Name cons nil") => `(tactic| (refine Stop.intro ?_))
local macro_rules | `(tactic| walk_at "exec For Name Call cons nil") => `(tactic| (refine Stop.intro ?_))
local macro_rules | `(tactic| walk_at "exec While Compare cons nil") => `(tactic| (refine Stop.intro ?_))
local macro_rules | `(tactic| walk_at "exec While BoolOp cons nil") => `(tactic| (refine Stop.intro ?_))
local macro_rules | `(tactic| walk_at "call builtin:isinstance") => `(tactic| (k_here; (with_reducible show wpAny _ _ (call (Value.builtin "isinstance") [Value.ref _, Value.type "tuple"]) _ _ _); k_dflt (refine' isi_T ?B ?F ?X ?N ?_; (case F => k_asm); (case X => k_asm); (case N => k_asm); (case B => (repeat (first | assumption | with_reducible exact Bears.here | exact finfB _ _ | exact fninfB _ _ | exact fzeroB _ _ | with_reducible refine Bears.cons ?_ | with_reducible refine Bears.app ?_))); k_whole)))
local macro_rules | `(tactic| walk_at "call builtin:len") => `(tactic| (k_here; (with_reducible show wpAny _ _ (call (Value.builtin "len") [Value.ref _]) _ _ _); k_dflt (refine' len_T ?B ?F ?X ?N ?_; (case F => k_asm); (case X => k_asm); (case N => k_asm); (case B => (repeat (first | assumption | with_reducible exact Bears.here | exact finfB _ _ | exact fninfB _ _ | exact fzeroB _ _ | with_reducible refine Bears.cons ?_ | with_reducible refine Bears.app ?_))); k_whole); intro _ _))
local macro_rules | `(tactic| walk_at "call builtin:divmod") => `(tactic| (k_here; k_dflt (refine' divmod_T ?F ?N ?b ?p ?_; (case F => k_asm); (case N => k_asm); (case b => first | with_reducible assumption | omega); (case p => with_reducible assumption); k_whole); intro h' r' t1' t2' tk' F' N'; (try k_sweep)))
local macro_rules | `(tactic| walk_at "inplaceOp FloorDiv int int") => `(tactic| ((with_reducible refine ifdiv_T ?_ ?_ ?_); decide; decide +kernel; intro _ _))
local macro_rules | `(tactic| walk_at "binaryOp Mod int int") => `(tactic| ((with_reducible refine mod_T ?_ ?_); omega; intro _ _))
local macro_rules | `(tactic| walk_at "subscriptTail") => `(tactic| (k_here; (with_reducible show wpAny _ _ (subscriptTail _ _ (Value.ref _) (Value.int _ _)) _ _ _); k_dflt (refine' litem_T ?M ?N ?a ?b ?x ?_ ?s; (case N => k_asm); (case M => (repeat (first | with_reducible assumption | with_reducible exact List.mem_cons_self | with_reducible refine List.mem_cons_of_mem _ ?_ | with_reducible refine List.mem_append_left _ ?_ | (refine Kept.oth (by with_reducible assumption) _ ?_ ?_; rotate_left; with_reducible assumption)))); (case a => omega); (case b => omega); (case x => with_reducible assumption); (case s => with_unfolding_all rfl); k_whole)))
local macro_rules | `(tactic| walk_at "subscriptTail") => `(tactic| (k_here; (with_reducible show wpAny _ _ (subscriptTail _ _ (Value.ref _) (Value.int (-1) _)) _ _ _); k_dflt (refine' litemN_T ?M ?N ?a ?b ?x ?_ ?s; (case N => k_asm); (case M => (repeat (first | with_reducible assumption | with_reducible exact List.mem_cons_self | with_reducible refine List.mem_cons_of_mem _ ?_ | with_reducible refine List.mem_append_left _ ?_ | (refine Kept.oth (by with_reducible assumption) _ ?_ ?_; rotate_left; with_reducible assumption)))); (case a => rfl); (case b => omega); (case x => with_reducible assumption); (case s => with_unfolding_all rfl); k_whole)))
local macro_rules | `(tactic| walk_at "truthy ref") => `(tactic| (k_here; k_dflt (refine' ltruthy_T ?M ?N ?z ?_; (case N => k_asm); (case M => (repeat (first | with_reducible assumption | with_reducible exact List.mem_cons_self | with_reducible refine List.mem_cons_of_mem _ ?_ | with_reducible refine List.mem_append_left _ ?_ | (refine Kept.oth (by with_reducible assumption) _ ?_ ?_; rotate_left; with_reducible assumption)))); (case z => first | omega | (simp only [List.length_append, List.length_cons, List.length_nil]; omega)); k_whole); intro _))
local macro_rules | `(tactic| walk_at "call builtin:len") => `(tactic| (k_here; (with_reducible show wpAny _ _ (call (Value.builtin "len") [Value.ref _]) _ _ _); k_dflt (refine' llen_T ?M ?N ?z ?_; (case N => k_asm); (case M => (repeat (first | with_reducible assumption | with_reducible exact List.mem_cons_self | with_reducible refine List.mem_cons_of_mem _ ?_ | with_reducible refine List.mem_append_left _ ?_ | (refine Kept.oth (by with_reducible assumption) _ ?_ ?_; rotate_left; with_reducible assumption)))); (case z => first | omega | (simp only [List.length_append, List.length_cons, List.length_nil]; omega)); k_whole); intro _ _))
local macro_rules | `(tactic| walk_at "call builtin:list.append") => `(tactic| (k_here; (with_reducible show wpAny _ _ (call (Value.builtin _) [Value.ref _, _]) _ _ _); k_dflt (refine' append_T (w := _) ?M ?F ?N ?z ?_; (case F => k_asm); (case N => k_asm); (case M => (repeat (first | with_reducible assumption | with_reducible exact List.mem_cons_self | with_reducible refine List.mem_cons_of_mem _ ?_ | with_reducible refine List.mem_append_left _ ?_ | (refine Kept.oth (by with_reducible assumption) _ ?_ ?_; rotate_left; with_reducible assumption)))); (case z => first | omega | (simp only [List.length_append, List.length_cons, List.length_nil]; omega))); intro h' nw' F' N' hin' hk'; (try k_sweep)))
local macro_rules | `(tactic| walk_at "call type:list") => `(tactic| (k_here; (with_reducible show wpAny _ _ (call (Value.type _) [Value.ref _]) _ _ _); k_dflt (refine' lcopy_T ?M ?F ?N ?z ?_; (case F => k_asm); (case N => k_asm); (case M => (repeat (first | with_reducible assumption | with_reducible exact List.mem_cons_self | with_reducible refine List.mem_cons_of_mem _ ?_ | with_reducible refine List.mem_append_left _ ?_ | (refine Kept.oth (by with_reducible assumption) _ ?_ ?_; rotate_left; with_reducible assumption)))); (case z => first | omega | (simp only [List.length_append, List.length_cons, List.length_nil]; omega)); k_whole); intro h' D' c' F' N' hne'; (try k_sweep)))
local macro_rules | `(tactic| walk_at "newList") => `(tactic| (k_here; k_dflt (refine' newlist_T ?F ?N ?_; (case F => k_asm); (case N => k_asm); k_whole); intro h' D' F' N' hne'; (try k_sweep)))
local macro_rules | `(tactic| walk_at "subscriptTail") => `(tactic| (k_here; (with_reducible show wpAny _ _ (subscriptTail _ _ (Value.ref _) (Value.ref _)) _ _ _); k_dflt (with_unfolding_all refine' slice_T ?M ?F ?N ?a ?z ?_ ?s ?t; (case F => k_asm); (case N => k_asm); (case M => (repeat (first | with_reducible assumption | with_reducible exact List.mem_cons_self | with_reducible refine List.mem_cons_of_mem _ ?_ | with_reducible refine List.mem_append_left _ ?_ | (refine Kept.oth (by with_reducible assumption) _ ?_ ?_; rotate_left; with_reducible assumption)))); (case a => omega); (case z => first | omega | (simp only [List.length_append, List.length_cons, List.length_nil]; omega)); (case s => with_unfolding_all rfl); (case t => intro _; with_unfolding_all rfl); k_whole); intro h' D' F' N' hne'; (try k_sweep)))
local macro_rules | `(tactic| walk_at "call ref") => `(tactic| (k_here; (with_reducible show wpAny _ _ (call (Value.ref 121) _) _ _ _); k_dflt (refine' DrawGives.use (g_draw _ _ _ _ _ _ _ ?hi ?hl ?i0 ?i1 ?n0 ?n1) ?hL ?B ?F ?X ?N ?T ?hk ?hd ?hu ?_; (case hL => k_asm); (case hi => first | k_asm | exact Hid.un (by with_reducible assumption)); (case hl => with_reducible assumption); (case i0 => omega); (case i1 => omega); (case n0 => omega); (case n1 => omega); (case B => k_asm); (case F => k_asm); (case X => k_asm); (case N => k_asm); (case T => k_asm); (case hk => rfl); (case hd => ((try dsimp only [Around.deeper, Around.in1, ktrTop]); omega)); (case hu => ((try dsimp only [Around.deeper, Around.in1, ktrTop]); omega)); k_whole); intro k' t' h' tk' F' N' hk1' hk2'; (try dsimp only); (try k_sweep)))
local macro_rules | `(tactic| walk_at "getMethod ref") => `(tactic| (k_here; (with_reducible show wpAny _ _ (getMethod (Value.ref _) (Str.ofString "append") _) _ _ _); k_dflt (refine' methA_T ?M ?N ?_; (case N => k_asm); (case M => (repeat (first | with_reducible assumption | with_reducible exact List.mem_cons_self | with_reducible refine List.mem_cons_of_mem _ ?_ | with_reducible refine List.mem_append_left _ ?_ | (refine Kept.oth (by with_reducible assumption) _ ?_ ?_; rotate_left; with_reducible assumption)))); k_whole)))
local macro_rules | `(tactic| walk_at "binaryOp Mult int int") => `(tactic| ((with_reducible refine mul_T ?_ ?_); intro _ _; rotate_left; first | exact IntMulOk.of_left (by decide) | exact mulOk_small (by omega) (by omega)))
local macro_rules | `(tactic| walk_at "binaryOp Mod int int") => `(tactic| ((with_reducible refine modP_T ?_ ?_); (first | omega | with_reducible assumption); intro r' _ _ hr' hr1' hr2'))

local macro_rules | `(tactic| walk_at "call type:range") => `(tactic| (k_here; (with_reducible show wpAny _ _ (call (Value.type "range") [Value.int _ _]) _ _ _); k_dflt (refine' range1_T ?F ?N ?_; (case F => k_asm); (case N => k_asm); k_whole); intro h' r' tk' t1' u1' v1' R' F' N'; (try k_sweep)))
local macro_rules | `(tactic| walk_at "call type:range") => `(tactic| (k_here; (with_reducible show wpAny _ _ (call (Value.type "range") [Value.int _ _, Value.int _ _]) _ _ _); k_dflt (refine' range2_T ?F ?N ?_; (case F => k_asm); (case N => k_asm); k_whole); intro h' r' tk' t1' u1' v1' R' F' N'; (try k_sweep)))
local macro_rules | `(tactic| walk_at "pyIter ref") => `(tactic| (refine Stop.intro ?_))
local macro_rules | `(tactic| walk_at "assign Tuple") => `(tactic| (k_here; (with_reducible show wpAny _ _ (assign (Expr.Tuple [_, _] _ _) _ (Value.ref _)) _ _ _); k_dflt (refine' unpack2_T ?B ?F ?X ?N ?a ?b ?c ?_; (case F => k_asm); (case X => k_asm); (case N => k_asm); (case B => (repeat (first | with_reducible assumption | with_reducible exact Bears.here | with_reducible refine Bears.cons ?_ | with_reducible refine Bears.app ?_))); (case a => rfl); (case b => rfl); (case c => rfl); k_whole); intro h' F' N'; (try k_sweep)))
local macro_rules | `(tactic| walk_at "compareOp NotEq ref ref") => `(tactic| (k_here; k_dflt (refine' lne_T ?M ?C ?A ?F ?X ?N ?u ?_; (case F => k_asm); (case X => k_asm); (case N => k_asm); (case M => (repeat (first | with_reducible assumption | with_reducible exact List.mem_cons_self | with_reducible refine List.mem_cons_of_mem _ ?_ | with_reducible refine List.mem_append_left _ ?_))); (case C => (repeat (first | with_reducible assumption | with_reducible exact List.mem_cons_self | with_reducible refine List.mem_cons_of_mem _ ?_ | with_reducible refine List.mem_append_left _ ?_))); (case A => (repeat (first | with_reducible assumption | with_reducible apply AllT.app | with_reducible apply AllT.cons))); (case u => ((try dsimp only [Around.deeper, Around.in1, ktrTop]); omega)); k_whole)))
theorem fill_C13 (w : World) : True := by
  refine fill_K w ?_
  k_fill
  intro _ _
  trivial

/-- the row and its whole numbers, as law holds them -/
structure XsAt (w : World) (pv low : Int) (xsA unA : Addr) (vs uvs : List Value) (us : List Int) (m : Str → Option Value) (nf : List (Addr × Obj)) : Prop where
  mp : ∃ t, m (Str.ofString "p") = some (.int pv t)
  ml : ∃ t, m (Str.ofString "low") = some (.int low t)
  mx : m (Str.ofString "xs") = some (.ref xsA)
  mu : m (Str.ofString "units") = some (.ref unA)
  lx : ∃ n, (xsA, listOf vs.toArray n) ∈ nf
  lu : ∃ n, (unA, listOf uvs.toArray n) ∈ nf
  hu : IntsAre uvs us
  al : AllT w nf low vs us
  good : ∀ u ∈ us, GoodU pv u
structure L1J (w : World) (l : Addr) (pv low : Int) (xsA unA : Addr) (i : Nat) (m : Str → Option Value) (nx : List (Addr × Obj)) : Prop where
  sc : m (Str.ofString "script") = some (.ref l)
  xs : ∃ vs uvs us, XsAt w pv low xsA unA vs uvs us m nx ∧ us.length = i

theorem XsAt.lookI {w : World} {pv low : Int} {xsA unA : Addr} {vs uvs : List Value} {us : List Int} {m : Str → Option Value} {nf : List (Addr × Obj)} (h : XsAt w pv low xsA unA vs uvs us m nf) {v : Value} {nf' : List (Addr × Obj)} (hs : ∀ q ∈ nf, q ∈ nf') :
    XsAt w pv low xsA unA vs uvs us (fun y => if y = Str.ofString "i" then some v else m y) nf' := by
  obtain ⟨mp, ml, mx, mu, ⟨n1, lx⟩, ⟨n2, lu⟩, hu, al, good⟩ := h
  obtain ⟨t1, mp⟩ := mp
  obtain ⟨t2, ml⟩ := ml
  exact ⟨⟨t1, (by (first | with_reducible exact look_here | with_reducible assumption | (simp only [ofString_eq, mapOf, String.reduceEq, ↓reduceIte] <;> first | rfl | with_reducible assumption)))⟩, ⟨t2, (by (first | with_reducible exact look_here | with_reducible assumption | (simp only [ofString_eq, mapOf, String.reduceEq, ↓reduceIte] <;> first | rfl | with_reducible assumption)))⟩, (by (first | with_reducible exact look_here | with_reducible assumption | (simp only [ofString_eq, mapOf, String.reduceEq, ↓reduceIte] <;> first | rfl | with_reducible assumption))), (by (first | with_reducible exact look_here | with_reducible assumption | (simp only [ofString_eq, mapOf, String.reduceEq, ↓reduceIte] <;> first | rfl | with_reducible assumption))), ⟨n1, hs _ lx⟩, ⟨n2, hs _ lu⟩, hu, al.mono hs, good⟩
theorem ints_push {vs : List Value} {us : List Int} (h : IntsAre vs us) (u : Int) (t : Tok) : IntsAre (vs ++ [.int u t]) (us ++ [u]) := by
  induction h with
  | nil => exact .cons u t .nil
  | cons n t' _ ih => exact .cons n t' ih
set_option maxHeartbeats 40000000 in
theorem law_L1 {w : World} {fa : Addr} {p : Program} {loose : List Str} {mean : ExcName → Option Value} {mg mb : Str → Option Value} {dp un : Nat} {gd : Option (List Code)} {ccd : Value} {outer : List Env} {A₀ : Around} {base h₀ : Heap} {L : Addr} {m : Str → Option Value} {news : List (Addr × Obj)} {Q : Flow → Shared → Prop} {E : Value → Shared → Prop} {h : Heap} {g : Array GenState} {d : Drawn} {tk : Nat} {o : OsState} {l : Addr} {vs0 : List Value} {ns : List Int} (B : Below A₀ base outer h₀) (F : Fr h₀ L h m) (X : (Mine.hd.heap_39 w.params).In h₀) (N : News h₀ L h news) (T : Top p loose mean mg mb h₀) (hd : dp + 40 < recursionLimit) (hu : un + 400 < cLine) (hL : base.IsList l vs0.toArray) (hi : IntsAre vs0 ns) (hlen : ns.length ≤ 63) {Q' : Flow → Shared → Prop} {pv low n : Int} {r xsA unA : Addr} {t1 u1 v1 : Tok} (hf : Fit pv low) (R : IsRange h r 0 n 1 t1 u1 v1) (n0 : 1 ≤ n) (n5 : n ≤ 5)
    (j1 : m (Str.ofString "script") = some (.ref l)) (x0 : XsAt w pv low xsA unA [] [] [] m news) (hne : xsA ≠ unA)
    (hcont : ∀ vs uvs us h' tk' m' nf, Fr h₀ L h' m' → News h₀ L h' nf → XsAt w pv low xsA unA vs uvs us m' nf → 1 ≤ us.length → us.length ≤ 5 → Q' .next ⟨h', g, d, tk', o⟩) :
    wpAny (model PySem.Challenge.rw_aa5008_01.prog w) (ktrTop dp un gd (Str.ofString "law") (lawScope w) L fa ccd [] outer) (pyIter (.ref r))
      (fun it s₂ => LoopAtV PySem.Challenge.rw_aa5008_01.prog w (ktrTop dp un gd (Str.ofString "law") (lawScope w) L fa ccd [] outer) h₀ (envOf (Str.ofString "law") (lawScope w) L fa ccd) (Str.ofString "i") (forBody (stAt (lawBody w) 3)) Q' E it s₂) E ⟨h, g, d, tk, o⟩ := by
  refine loop_range (L1J w l pv low xsA unA) rfl R (small_one (by omega) (by omega) (by omega) (by omega)) (rangeSize_nat _ _) F N ?_ ?_ ?_
  · exact ⟨j1, [], [], [], x0, rfl⟩
  · intro i t m₁ nx h₂ tk₂ own hi2 hJ hown F9 N9
    obtain ⟨sc, vs, uvs, us, x1, hlen2⟩ := hJ
    have x2 := x1.lookI (v := .int (0 + (i : Nat)) t) (nf' := own ++ nx) fun q hq => List.mem_append_right _ hq
    obtain ⟨⟨s1, mp⟩, ⟨s2, ml⟩, mx, mu, ⟨n1, lx⟩, ⟨n2, lu⟩, hu2, al, good⟩ := x2
    refine l1_turn B F9 X N9 T hd hu hL hi hlen hf.p0 hf.p1 hf.l0 hf.l1 (i := 0 + (i : Nat)) (by omega) (by omega) (by (first | with_reducible exact look_here | with_reducible assumption | (simp only [ofString_eq, mapOf, String.reduceEq, ↓reduceIte] <;> first | rfl | with_reducible assumption))) mp ml mx mu (by (first | with_reducible exact look_here | with_reducible assumption | (simp only [ofString_eq, mapOf, String.reduceEq, ↓reduceIte] <;> first | rfl | with_reducible assumption))) lx lu hne (Ne.symm hne) hu2 al (by omega) good ?_
    intro h' tk' m' nf v u tu F' N' e1 e2 e3 e4 e5 e6 e7 e8 e9 e10
    show TurnEnd _ _ _ _ _ _ _ _ _
    refine TurnEnd.intro F' N' (fun q hq => e10 q (List.mem_append_left _ hq) (hown q hq)) (fun B9 hB9 => ⟨e1, vs ++ [v], uvs ++ [.int u tu], us ++ [u], ⟨e2, e3, e4, e5, ⟨_, mem_tlf e6 isTL_list⟩, ⟨_, mem_tlf e7 isTL_list⟩, ints_push hu2 u tu, e8.tl, ?_⟩, by simp [hlen2]⟩)
    intro z hz
    rcases List.mem_append.mp hz with hz | hz
    · exact good z hz
    · rw [List.mem_singleton.mp hz]; exact e9
  · intro m₁ nx h₂ tk₂ hJ F9 N9
    obtain ⟨sc, vs, uvs, us, x1, hlen2⟩ := hJ
    exact hcont vs uvs us _ _ _ _ F9 N9 x1 (by omega) (by omega)
set_option maxHeartbeats 40000000 in
theorem law_a {w : World} {fa : Addr} {p : Program} {loose : List Str} {mean : ExcName → Option Value} {mg mb : Str → Option Value} {dp un : Nat} {gd : Option (List Code)} {ccd : Value} {outer : List Env} {A₀ : Around} {base h₀ : Heap} {L : Addr} {m : Str → Option Value} {news : List (Addr × Obj)} {Q : Flow → Shared → Prop} {E : Value → Shared → Prop} {h : Heap} {g : Array GenState} {d : Drawn} {tk : Nat} {o : OsState} {l : Addr} {vs0 : List Value} {ns : List Int} (B : Below A₀ base outer h₀) (F : Fr h₀ L h m) (X : (Mine.hd.heap_39 w.params).In h₀) (N : News h₀ L h news) (T : Top p loose mean mg mb h₀) (hd : dp + 40 < recursionLimit) (hu : un + 400 < cLine) (hL : base.IsList l vs0.toArray) (hi : IntsAre vs0 ns) (hlen : ns.length ≤ 63) (hE : PassesOwn (model PySem.Challenge.rw_aa5008_01.prog w) (ktrTop dp un gd (Str.ofString "law") (lawScope w) L fa ccd [] outer) (envOf (Str.ofString "law") (lawScope w) L fa ccd) E) (hm : m = mapOf [(Str.ofString "script", .ref l)]) (hn : news = [])
    (hcont : ∀ pv low xsA unA vs uvs us h' tk' m' nf, Fit pv low → Fr h₀ L h' m' → News h₀ L h' nf → XsAt w pv low xsA unA vs uvs us m' nf → 1 ≤ us.length → us.length ≤ 5 →
      wpAny (model PySem.Challenge.rw_aa5008_01.prog w) (ktrTop dp un gd (Str.ofString "law") (lawScope w) L fa ccd [] outer) (execs ((lawBody w).drop 4) (envOf (Str.ofString "law") (lawScope w) L fa ccd)) Q E ⟨h', g, d, tk', o⟩) :
    wpAny (model PySem.Challenge.rw_aa5008_01.prog w) (ktrTop dp un gd (Str.ofString "law") (lawScope w) L fa ccd [] outer) (execs (lawBody w) (envOf (Str.ofString "law") (lawScope w) L fa ccd)) Q E ⟨h, g, d, tk, o⟩ := by
  subst hm hn
  have hi' := hi
  replace hi := Hid.of hi
  clear hi'
  with_unfolding_all (conv in (execs _ _) => arg 1; whnf)
  show wpAny _ _ _ _ _ _
  (try k_fold)
  k_steps
  unfold Stop
  rename Fr _ _ _ _ => F9
  rename News _ _ _ _ => N9
  (with_unfolding_all refine' For_invVF F9 ?k1 ?k2 ?_ ?_ hE; (case k1 => exact rfl); (case k2 => exact rfl); rotate_left; exact fun _ => rfl)
  k_steps
  unfold Stop
  rename Fr _ _ _ _ => F9
  rename News _ _ _ _ => N9
  rename IsRange _ _ _ _ _ _ _ _ => R9
  with_unfolding_all refine law_L1 (Q := Q) B F9 X N9 T hd hu hL hi.un hlen ?hf R9 (by omega) (by omega) (by (first | with_reducible exact look_here | with_reducible assumption | (simp only [ofString_eq, mapOf, String.reduceEq, ↓reduceIte] <;> first | rfl | with_reducible assumption))) ⟨⟨_, (by (first | with_reducible exact look_here | with_reducible assumption | (simp only [ofString_eq, mapOf, String.reduceEq, ↓reduceIte] <;> first | rfl | with_reducible assumption)))⟩, ⟨_, (by (first | with_reducible exact look_here | with_reducible assumption | (simp only [ofString_eq, mapOf, String.reduceEq, ↓reduceIte] <;> first | rfl | with_reducible assumption)))⟩, (by (first | with_reducible exact look_here | with_reducible assumption | (simp only [ofString_eq, mapOf, String.reduceEq, ↓reduceIte] <;> first | rfl | with_reducible assumption))), (by (first | with_reducible exact look_here | with_reducible assumption | (simp only [ofString_eq, mapOf, String.reduceEq, ↓reduceIte] <;> first | rfl | with_reducible assumption))), ⟨0, by simp⟩, ⟨0, by simp⟩, IntsAre.nil, AllT.nil, by simp⟩ ?hne ?_
  case hf => exact ⟨by omega, by omega, by omega, by omega⟩
  case hne =>
    rename ∀ q : Addr × Obj, q ∈ [_] → q.fst ≠ _ => hn9
    exact hn9 _ List.mem_cons_self
  clear F9 N9 R9
  intro vs uvs us h' tk' m' nf F9 N9 x1 a1 a2
  show wpAny _ _ _ _ _ _
  (try k_fold)
  with_unfolding_all exact hcont _ _ _ _ _ _ _ _ _ _ _ ⟨by omega, by omega, by omega, by omega⟩ F9 N9 x1 a1 a2
end Mine

-- C14
set_option maxRecDepth 100000
namespace Mine
open PySem PySem.W PyProof.Rows PySem.Spec PySem.Calls
local macro_rules | `(tactic| walk_at "never 0") => `(tactic| fail "never")
-- the walk's own lines: each step's token and heap named anew
local macro_rules | `(tactic| walk_at "binaryOp Add int int") => `(tactic| (with_reducible refine add_T ?_; intro _ _))
local macro_rules | `(tactic| walk_at "binaryOp Sub int int") => `(tactic| (with_reducible refine sub_T ?_; intro _ _))
local macro_rules | `(tactic| walk_at "binaryOp BitAnd int int") => `(tactic| (with_reducible refine and_T ?_; intro _ _))
local macro_rules | `(tactic| walk_at "binaryOp BitXor int int") => `(tactic| (with_reducible refine xor_T ?_; intro _ _))
local macro_rules | `(tactic| walk_at "inplaceOp Add int int") => `(tactic| (with_reducible refine iadd_T ?_; intro _ _))
local macro_rules | `(tactic| walk_at "inplaceOp Sub int int") => `(tactic| (with_reducible refine isub_T ?_; intro _ _))
local macro_rules | `(tactic| walk_at "inplaceOp BitXor int int") => `(tactic| (with_reducible refine ixor_T ?_; intro _ _))
local macro_rules | `(tactic| walk_at "binaryOp RShift int int") => `(tactic| ((with_reducible refine rsh_T ?_ ?_); omega; intro _ _))
local macro_rules | `(tactic| walk_at "inplaceOp RShift int int") => `(tactic| ((with_reducible refine irsh_T ?_ ?_); omega; intro _ _))
local macro_rules | `(tactic| walk_at "binaryOp LShift int int") => `(tactic| ((with_reducible refine lsh_T ?_ ?_ ?_); omega; (try simp only [bits_one]); omega; intro _ _))
local macro_rules | `(tactic| walk_at "inplaceOp LShift int int") => `(tactic| ((with_reducible refine ilsh_T ?_ ?_ ?_); omega; (try simp only [bits_one]); omega; intro _ _))
local macro_rules | `(tactic| walk_at "unaryOp USub int") => `(tactic| (with_reducible refine neg_T ?_; intro _ _))
local macro_rules | `(tactic| walk_at "call builtin:int.bit_length") => `(tactic| (with_reducible refine bits_T ?_; intro _ _))
local macro_rules | `(tactic| walk_at "eval Constant int") => `(tactic| (with_reducible refine const_T ?_; intro _ _))
local macro_rules | `(tactic| walk_at "storeName") => `(tactic| (k_here; k_dflt (refine' store_T ?F ?N ?_ ?a ?b; (case F => k_asm); (case N => k_asm); (case a => rfl); (case b => rfl); k_whole); intro h' tk' F' N'; (try k_sweep)))
local macro_rules | `(tactic| walk_at "newTuple") => `(tactic| (k_here; k_dflt (refine' tuple_T ?F ?N ?s ?_; (case F => k_asm); (case N => k_asm); (case s => decide); k_whole); intro h' r' F' N'; (try k_sweep)))
local macro_rules | `(tactic| walk_at "assign Tuple") => `(tactic| (k_here; (with_reducible show wpAny _ _ (assign (Expr.Tuple _ _ _) _ (Value.ref _)) _ _ _); k_dflt (refine' unpack_T ?B ?F ?X ?N ?a ?b ?c ?_; (case F => k_asm); (case X => k_asm); (case N => k_asm); (case B => (repeat (first | assumption | with_reducible exact Bears.here | exact finfB _ _ | exact fninfB _ _ | exact fzeroB _ _ | with_reducible refine Bears.cons ?_ | with_reducible refine Bears.app ?_))); (case a => rfl); (case b => rfl); (case c => rfl); k_whole); intro h' F' N'; (try k_sweep)))
local macro_rules | `(tactic| walk_at "ite") => `(tactic| with_reducible first
  | (refine dec_split ?_ ?_ <;> intro _) | (refine bne_split ?_ ?_ <;> intro _) | (refine beq_split ?_ ?_ <;> intro _))
local macro_rules | `(tactic| walk_at "compareOp Eq ref ref") => `(tactic| (k_here; k_dflt (first
  | (refine' eq_T ?B ?C ?F ?X ?N ?u ?_; (case F => k_asm); (case X => k_asm); (case N => k_asm); (case B => (repeat (first | assumption | with_reducible exact Bears.here | exact finfB _ _ | exact fninfB _ _ | exact fzeroB _ _ | with_reducible refine Bears.cons ?_ | with_reducible refine Bears.app ?_))); (case C => (repeat (first | assumption | with_reducible exact Bears.here | exact finfB _ _ | exact fninfB _ _ | exact fzeroB _ _ | with_reducible refine Bears.cons ?_ | with_reducible refine Bears.app ?_))); (case u => ((try dsimp only [Around.deeper, Around.in1, ktrTop]); omega)); k_whole)
  | (refine' eqL_T ?B ?C ?F ?X ?N ?u ?_; (case F => k_asm); (case X => k_asm); (case N => k_asm); (case B => (repeat (first | assumption | with_reducible exact Bears.here | exact finfB _ _ | exact fninfB _ _ | exact fzeroB _ _ | with_reducible refine Bears.cons ?_ | with_reducible refine Bears.app ?_))); (case C => (repeat (first | assumption | with_reducible exact Bears.here | exact finfB _ _ | exact fninfB _ _ | exact fzeroB _ _ | with_reducible refine Bears.cons ?_ | with_reducible refine Bears.app ?_))); (case u => ((try dsimp only [Around.deeper, Around.in1, ktrTop]); omega)); k_whole))))
local macro_rules | `(tactic| walk_at "compareOp NotEq ref ref") => `(tactic| (k_here; k_dflt (refine' ne_T ?B ?C ?F ?X ?N ?u ?_; (case F => k_asm); (case X => k_asm); (case N => k_asm); (case B => (repeat (first | assumption | with_reducible exact Bears.here | exact finfB _ _ | exact fninfB _ _ | exact fzeroB _ _ | with_reducible refine Bears.cons ?_ | with_reducible refine Bears.app ?_))); (case C => (repeat (first | assumption | with_reducible exact Bears.here | exact finfB _ _ | exact fninfB _ _ | exact fzeroB _ _ | with_reducible refine Bears.cons ?_ | with_reducible refine Bears.app ?_))); (case u => ((try dsimp only [Around.deeper, Around.in1, ktrTop]); omega)); k_whole)))
local macro_rules | `(tactic| walk_at "subscriptTail") => `(tactic| (k_here; (with_reducible show wpAny _ _ (subscriptTail _ _ (Value.ref _) (Value.int _ _)) _ _ _); k_dflt (refine' item_T ?B ?F ?X ?N ?i ?x ?_ ?s; (case F => k_asm); (case X => k_asm); (case N => k_asm); (case B => (repeat (first | assumption | with_reducible exact Bears.here | exact finfB _ _ | exact fninfB _ _ | exact fzeroB _ _ | with_reducible refine Bears.cons ?_ | with_reducible refine Bears.app ?_))); (case i => omega); (case x => rfl); (case s => with_unfolding_all rfl); k_whole)))
local macro_rules | `(tactic| walk_at "binaryOp Pow int int") => `(tactic| ((with_reducible refine pow_T ?_ ?_ ?_ ?_); omega; omega; omega; intro _ _))
local macro_rules | `(tactic| walk_at "ite") => `(tactic| with_reducible first
  | (refine eqb_tt (by assumption) ?_) | (refine eqb_ff (by assumption) ?_) | (refine eqb_ff_e (by (dsimp only; omega)) ?_))
local macro_rules | `(tactic| walk_at "ite") => `(tactic| with_reducible first
  | (refine dec_tt (by omega) ?_) | (refine dec_ff (by omega) ?_) | (refine bne_tt (by omega) ?_) | (refine bne_ff (by omega) ?_) | (refine beq_tt (by omega) ?_) | (refine beq_ff (by omega) ?_) | (refine not_ite ?_))
local macro_rules | `(tactic| walk_at "eval Name") => `(tactic| (k_here; k_dflt (refine' name_G ?F ?X ?T ?e ?_ ?a ?b ?c; (case F => k_asm); (case X => k_asm); (case T => k_asm); (case e => k_is); (case b => kernel_rfl);  (case a => rfl); (case c => kernel_rfl); k_whole)))
local macro_rules | `(tactic| walk_at "eval Name") => `(tactic| (k_here; k_dflt (refine' name_T ?F ?v ?_ ?a ?b ?c; (case F => k_asm); (case v => (first | with_reducible exact look_here | with_reducible assumption | (simp only [ofString_eq, mapOf, String.reduceEq, ↓reduceIte] <;> first | rfl | with_reducible assumption))); (case b => kernel_rfl); (case a => rfl); (case c => kernel_rfl); k_whole)))
local macro_rules | `(tactic| walk_at "loadName") => `(tactic| (k_here; k_dflt (refine' loadn_T ?F ?v ?_ ?a ?b; (case F => k_asm); (case v => (first | with_reducible exact look_here | with_reducible assumption | (simp only [ofString_eq, mapOf, String.reduceEq, ↓reduceIte] <;> first | rfl | with_reducible assumption))); (case b => kernel_rfl); (case a => rfl); k_whole)))
local macro_rules | `(tactic| walk_at "exec If") => `(tactic| with_reducible refine wpAny_If ?_)
local macro_rules | `(tactic| walk_at "exec For Name Name cons nil") => `(tactic| (refine Stop.intro ?_))
local macro_rules | `(tactic| walk_at "exec For Name Call cons nil") => `(tactic| (refine Stop.intro ?_))
local macro_rules | `(tactic| walk_at "exec While Compare cons nil") => `(tactic| (refine Stop.intro ?_))
local macro_rules | `(tactic| walk_at "exec While BoolOp cons nil") => `(tactic| (refine Stop.intro ?_))
local macro_rules | `(tactic| walk_at "call builtin:isinstance") => `(tactic| (k_here; (with_reducible show wpAny _ _ (call (Value.builtin "isinstance") [Value.ref _, Value.type "tuple"]) _ _ _); k_dflt (refine' isi_T ?B ?F ?X ?N ?_; (case F => k_asm); (case X => k_asm); (case N => k_asm); (case B => (repeat (first | assumption | with_reducible exact Bears.here | exact finfB _ _ | exact fninfB _ _ | exact fzeroB _ _ | with_reducible refine Bears.cons ?_ | with_reducible refine Bears.app ?_))); k_whole)))
local macro_rules | `(tactic| walk_at "call builtin:len") => `(tactic| (k_here; (with_reducible show wpAny _ _ (call (Value.builtin "len") [Value.ref _]) _ _ _); k_dflt (refine' len_T ?B ?F ?X ?N ?_; (case F => k_asm); (case X => k_asm); (case N => k_asm); (case B => (repeat (first | assumption | with_reducible exact Bears.here | exact finfB _ _ | exact fninfB _ _ | exact fzeroB _ _ | with_reducible refine Bears.cons ?_ | with_reducible refine Bears.app ?_))); k_whole); intro _ _))
local macro_rules | `(tactic| walk_at "call builtin:divmod") => `(tactic| (k_here; k_dflt (refine' divmod_T ?F ?N ?b ?p ?_; (case F => k_asm); (case N => k_asm); (case b => first | with_reducible assumption | omega); (case p => with_reducible assumption); k_whole); intro h' r' t1' t2' tk' F' N'; (try k_sweep)))
local macro_rules | `(tactic| walk_at "inplaceOp FloorDiv int int") => `(tactic| ((with_reducible refine ifdiv_T ?_ ?_ ?_); decide; decide +kernel; intro _ _))
local macro_rules | `(tactic| walk_at "binaryOp Mod int int") => `(tactic| ((with_reducible refine mod_T ?_ ?_); omega; intro _ _))
local macro_rules | `(tactic| walk_at "subscriptTail") => `(tactic| (k_here; (with_reducible show wpAny _ _ (subscriptTail _ _ (Value.ref _) (Value.int _ _)) _ _ _); k_dflt (refine' litem_T ?M ?N ?a ?b ?x ?_ ?s; (case N => k_asm); (case M => (repeat (first | with_reducible assumption | with_reducible exact List.mem_cons_self | with_reducible refine List.mem_cons_of_mem _ ?_ | with_reducible refine List.mem_append_left _ ?_ | (refine Kept.oth (by with_reducible assumption) _ ?_ ?_; rotate_left; with_reducible assumption)))); (case a => omega); (case b => omega); (case x => with_reducible assumption); (case s => with_unfolding_all rfl); k_whole)))
local macro_rules | `(tactic| walk_at "subscriptTail") => `(tactic| (k_here; (with_reducible show wpAny _ _ (subscriptTail _ _ (Value.ref _) (Value.int (-1) _)) _ _ _); k_dflt (refine' litemN_T ?M ?N ?a ?b ?x ?_ ?s; (case N => k_asm); (case M => (repeat (first | with_reducible assumption | with_reducible exact List.mem_cons_self | with_reducible refine List.mem_cons_of_mem _ ?_ | with_reducible refine List.mem_append_left _ ?_ | (refine Kept.oth (by with_reducible assumption) _ ?_ ?_; rotate_left; with_reducible assumption)))); (case a => rfl); (case b => omega); (case x => with_reducible assumption); (case s => with_unfolding_all rfl); k_whole)))
local macro_rules | `(tactic| walk_at "truthy ref") => `(tactic| (k_here; k_dflt (refine' ltruthy_T ?M ?N ?z ?_; (case N => k_asm); (case M => (repeat (first | with_reducible assumption | with_reducible exact List.mem_cons_self | with_reducible refine List.mem_cons_of_mem _ ?_ | with_reducible refine List.mem_append_left _ ?_ | (refine Kept.oth (by with_reducible assumption) _ ?_ ?_; rotate_left; with_reducible assumption)))); (case z => first | omega | (simp only [List.length_append, List.length_cons, List.length_nil]; omega)); k_whole); intro _))
local macro_rules | `(tactic| walk_at "call builtin:len") => `(tactic| (k_here; (with_reducible show wpAny _ _ (call (Value.builtin "len") [Value.ref _]) _ _ _); k_dflt (refine' llen_T ?M ?N ?z ?_; (case N => k_asm); (case M => (repeat (first | with_reducible assumption | with_reducible exact List.mem_cons_self | with_reducible refine List.mem_cons_of_mem _ ?_ | with_reducible refine List.mem_append_left _ ?_ | (refine Kept.oth (by with_reducible assumption) _ ?_ ?_; rotate_left; with_reducible assumption)))); (case z => first | omega | (simp only [List.length_append, List.length_cons, List.length_nil]; omega)); k_whole); intro _ _))
local macro_rules | `(tactic| walk_at "call builtin:list.append") => `(tactic| (k_here; (with_reducible show wpAny _ _ (call (Value.builtin _) [Value.ref _, _]) _ _ _); k_dflt (refine' append_T (w := _) ?M ?F ?N ?z ?_; (case F => k_asm); (case N => k_asm); (case M => (repeat (first | with_reducible assumption | with_reducible exact List.mem_cons_self | with_reducible refine List.mem_cons_of_mem _ ?_ | with_reducible refine List.mem_append_left _ ?_ | (refine Kept.oth (by with_reducible assumption) _ ?_ ?_; rotate_left; with_reducible assumption)))); (case z => first | omega | (simp only [List.length_append, List.length_cons, List.length_nil]; omega))); intro h' nw' F' N' hin' hk'; (try k_sweep)))
local macro_rules | `(tactic| walk_at "call type:list") => `(tactic| (k_here; (with_reducible show wpAny _ _ (call (Value.type _) [Value.ref _]) _ _ _); k_dflt (refine' lcopy_T ?M ?F ?N ?z ?_; (case F => k_asm); (case N => k_asm); (case M => (repeat (first | with_reducible assumption | with_reducible exact List.mem_cons_self | with_reducible refine List.mem_cons_of_mem _ ?_ | with_reducible refine List.mem_append_left _ ?_ | (refine Kept.oth (by with_reducible assumption) _ ?_ ?_; rotate_left; with_reducible assumption)))); (case z => first | omega | (simp only [List.length_append, List.length_cons, List.length_nil]; omega)); k_whole); intro h' D' c' F' N' hne'; (try k_sweep)))
local macro_rules | `(tactic| walk_at "newList") => `(tactic| (k_here; k_dflt (refine' newlist_T ?F ?N ?_; (case F => k_asm); (case N => k_asm); k_whole); intro h' D' F' N' hne'; (try k_sweep)))
local macro_rules | `(tactic| walk_at "subscriptTail") => `(tactic| (k_here; (with_reducible show wpAny _ _ (subscriptTail _ _ (Value.ref _) (Value.ref _)) _ _ _); k_dflt (with_unfolding_all refine' slice_T ?M ?F ?N ?a ?z ?_ ?s ?t; (case F => k_asm); (case N => k_asm); (case M => (repeat (first | with_reducible assumption | with_reducible exact List.mem_cons_self | with_reducible refine List.mem_cons_of_mem _ ?_ | with_reducible refine List.mem_append_left _ ?_ | (refine Kept.oth (by with_reducible assumption) _ ?_ ?_; rotate_left; with_reducible assumption)))); (case a => omega); (case z => first | omega | (simp only [List.length_append, List.length_cons, List.length_nil]; omega)); (case s => with_unfolding_all rfl); (case t => intro _; with_unfolding_all rfl); k_whole); intro h' D' F' N' hne'; (try k_sweep)))
local macro_rules | `(tactic| walk_at "call ref") => `(tactic| (k_here; (with_reducible show wpAny _ _ (call (Value.ref 121) _) _ _ _); k_dflt (refine' DrawGives.use (g_draw _ _ _ _ _ _ _ ?hi ?hl ?i0 ?i1 ?n0 ?n1) ?hL ?B ?F ?X ?N ?T ?hk ?hd ?hu ?_; (case hL => k_asm); (case hi => first | k_asm | exact Hid.un (by with_reducible assumption)); (case hl => with_reducible assumption); (case i0 => omega); (case i1 => omega); (case n0 => omega); (case n1 => omega); (case B => k_asm); (case F => k_asm); (case X => k_asm); (case N => k_asm); (case T => k_asm); (case hk => rfl); (case hd => ((try dsimp only [Around.deeper, Around.in1, ktrTop]); omega)); (case hu => ((try dsimp only [Around.deeper, Around.in1, ktrTop]); omega)); k_whole); intro k' t' h' tk' F' N' hk1' hk2'; (try dsimp only); (try k_sweep)))
local macro_rules | `(tactic| walk_at "getMethod ref") => `(tactic| (k_here; (with_reducible show wpAny _ _ (getMethod (Value.ref _) (Str.ofString "append") _) _ _ _); k_dflt (refine' methA_T ?M ?N ?_; (case N => k_asm); (case M => (repeat (first | with_reducible assumption | with_reducible exact List.mem_cons_self | with_reducible refine List.mem_cons_of_mem _ ?_ | with_reducible refine List.mem_append_left _ ?_ | (refine Kept.oth (by with_reducible assumption) _ ?_ ?_; rotate_left; with_reducible assumption)))); k_whole)))
local macro_rules | `(tactic| walk_at "binaryOp Mult int int") => `(tactic| ((with_reducible refine mul_T ?_ ?_); intro _ _; rotate_left; first | exact IntMulOk.of_left (by decide) | exact mulOk_small (by omega) (by omega)))
local macro_rules | `(tactic| walk_at "binaryOp Mod int int") => `(tactic| ((with_reducible refine modP_T ?_ ?_); (first | omega | with_reducible assumption); intro r' _ _ hr' hr1' hr2'))

local macro_rules | `(tactic| walk_at "call type:range") => `(tactic| (k_here; (with_reducible show wpAny _ _ (call (Value.type "range") [Value.int _ _]) _ _ _); k_dflt (refine' range1_T ?F ?N ?_; (case F => k_asm); (case N => k_asm); k_whole); intro h' r' tk' t1' u1' v1' R' F' N'; (try k_sweep)))
local macro_rules | `(tactic| walk_at "call type:range") => `(tactic| (k_here; (with_reducible show wpAny _ _ (call (Value.type "range") [Value.int _ _, Value.int _ _]) _ _ _); k_dflt (refine' range2_T ?F ?N ?_; (case F => k_asm); (case N => k_asm); k_whole); intro h' r' tk' t1' u1' v1' R' F' N'; (try k_sweep)))
local macro_rules | `(tactic| walk_at "pyIter ref") => `(tactic| (refine Stop.intro ?_))
local macro_rules | `(tactic| walk_at "assign Tuple") => `(tactic| (k_here; (with_reducible show wpAny _ _ (assign (Expr.Tuple [_, _] _ _) _ (Value.ref _)) _ _ _); k_dflt (refine' unpack2_T ?B ?F ?X ?N ?a ?b ?c ?_; (case F => k_asm); (case X => k_asm); (case N => k_asm); (case B => (repeat (first | with_reducible assumption | with_reducible exact Bears.here | with_reducible refine Bears.cons ?_ | with_reducible refine Bears.app ?_))); (case a => rfl); (case b => rfl); (case c => rfl); k_whole); intro h' F' N'; (try k_sweep)))
local macro_rules | `(tactic| walk_at "compareOp NotEq ref ref") => `(tactic| (k_here; k_dflt (refine' lne_T ?M ?C ?A ?F ?X ?N ?u ?_; (case F => k_asm); (case X => k_asm); (case N => k_asm); (case M => (repeat (first | with_reducible assumption | with_reducible exact List.mem_cons_self | with_reducible refine List.mem_cons_of_mem _ ?_ | with_reducible refine List.mem_append_left _ ?_))); (case C => (repeat (first | with_reducible assumption | with_reducible exact List.mem_cons_self | with_reducible refine List.mem_cons_of_mem _ ?_ | with_reducible refine List.mem_append_left _ ?_))); (case A => (repeat (first | with_reducible assumption | with_reducible apply AllT.app | with_reducible apply AllT.cons))); (case u => ((try dsimp only [Around.deeper, Around.in1, ktrTop]); omega)); k_whole)))
local macro_rules | `(tactic| walk_at "call ref") => `(tactic| (k_here; (with_reducible show wpAny _ _ (call (Value.ref 149) _) _ _ _); k_dflt (refine' MGives.use (w_two ?ta ?tb ?fa ?ra ?rb ?rc ?rd) ?B ?F ?X ?N ?T ?hk ?hd ?hu ?_ ?mo; (case B => k_asm); (case F => k_asm); (case X => k_asm); (case N => k_asm); (case T => k_asm); (case hk => rfl); (case hd => ((try dsimp only [Around.deeper, Around.in1, ktrTop]); omega)); (case hu => ((try dsimp only [Around.deeper, Around.in1, ktrTop]); omega)); (case mo => exact fun _ _ _ hs ht => PairT.mono ht hs); (case ta => first | with_reducible assumption | exact Tn.of_bears (by (repeat (first | with_reducible assumption | with_reducible exact Bears.here | with_reducible refine Bears.cons ?_ | with_reducible refine Bears.app ?_))) rfl); (case tb => first | with_reducible assumption | exact Tn.of_bears (by (repeat (first | with_reducible assumption | with_reducible exact Bears.here | with_reducible refine Bears.cons ?_ | with_reducible refine Bears.app ?_))) rfl); (case fa => with_reducible assumption); (case ra => with_reducible assumption); (case rb => with_reducible assumption); (case rc => with_reducible assumption); (case rd => with_reducible assumption); k_whole); intro r' tl' h' tk' F' N' ho'; (obtain ⟨a', v1', v2', n', e', hB', ⟨b1', k1', k2', k3', k4', n1', e1', hC1'⟩, ⟨b2', j1', j2', j3', j4', n2', e2', hC2'⟩⟩ := ho'); subst e1'; subst e2'; subst e'; (try dsimp only); (try k_sweep)))
local macro_rules | `(tactic| walk_at "call ref") => `(tactic| (k_here; (with_reducible show wpAny _ _ (call (Value.ref 128) _) _ _ _); k_dflt (refine' MGives.useP (w_form ?ta ?fa ?ra ?rb) ?B ?F ?X ?N ?T ?hk ?hd ?hu ?_; (case B => k_asm); (case F => k_asm); (case X => k_asm); (case N => k_asm); (case T => k_asm); (case hk => rfl); (case hd => ((try dsimp only [Around.deeper, Around.in1, ktrTop]); omega)); (case hu => ((try dsimp only [Around.deeper, Around.in1, ktrTop]); omega)); (case ta => first | with_reducible assumption | exact Tn.of_bears (by (repeat (first | with_reducible assumption | with_reducible exact Bears.here | with_reducible refine Bears.cons ?_ | with_reducible refine Bears.app ?_))) rfl); (case fa => with_reducible assumption); (case ra => with_reducible assumption); (case rb => with_reducible assumption); k_whole); intro r' h' tk' F' N' ho'; refine Exists.elim ho' ?_; clear ho'; intro t' e'; subst e'; (try dsimp only); (try k_sweep)))
local macro_rules | `(tactic| walk_at "call ref") => `(tactic| (k_here; (with_reducible show wpAny _ _ (call (Value.ref 135) _) _ _ _); k_dflt (refine' MGives.useP (w_whole ?ta ?fa ?ra) ?B ?F ?X ?N ?T ?hk ?hd ?hu ?_; (case B => k_asm); (case F => k_asm); (case X => k_asm); (case N => k_asm); (case T => k_asm); (case hk => rfl); (case hd => ((try dsimp only [Around.deeper, Around.in1, ktrTop]); omega)); (case hu => ((try dsimp only [Around.deeper, Around.in1, ktrTop]); omega)); (case ta => first | with_reducible assumption | exact Tn.of_bears (by (repeat (first | with_reducible assumption | with_reducible exact Bears.here | with_reducible refine Bears.cons ?_ | with_reducible refine Bears.app ?_))) rfl); (case fa => with_reducible assumption); (case ra => with_reducible assumption); k_whole); intro r' h' tk' F' N' ho'; refine Exists.elim ho' ?_; clear ho'; intro t' e'; subst e'; (try dsimp only); (try k_sweep)))
theorem fill_C14 (w : World) : True := by
  refine fill_K w ?_
  k_fill
  intro _ _
  trivial

set_option maxHeartbeats 40000000 in
theorem l3_turn {w : World} {fa : Addr} {p : Program} {loose : List Str} {mean : ExcName → Option Value} {mg mb : Str → Option Value} {dp un : Nat} {gd : Option (List Code)} {ccd : Value} {outer : List Env} {A₀ : Around} {base h₀ : Heap} {L : Addr} {m : Str → Option Value} {news : List (Addr × Obj)} {Q : Flow → Shared → Prop} {E : Value → Shared → Prop} {h : Heap} {g : Array GenState} {d : Drawn} {tk : Nat} {o : OsState} {l : Addr} {vs0 : List Value} {ns : List Int} (B : Below A₀ base outer h₀) (F : Fr h₀ L h m) (X : (Mine.hd.heap_39 w.params).In h₀) (N : News h₀ L h news) (T : Top p loose mean mg mb h₀) (hd : dp + 40 < recursionLimit) (hu : un + 400 < cLine) (hL : base.IsList l vs0.toArray) (hi : IntsAre vs0 ns) (hlen : ns.length ≤ 63) {pv low qv yv : Int} {qa ya ktA : Addr} {kvs : List Value} {kn : Nat} {u1 u2 u3 u4 w1 w2 w3 w4 s2 s3 : Tok} {un' wn : Nat} (hf : Fit pv low)
    (j1 : m (Str.ofString "q") = some (.ref qa)) (j2 : m (Str.ofString "p") = some (.int pv s2)) (j3 : m (Str.ofString "low") = some (.int low s3)) (j4 : m (Str.ofString "y") = some (.ref ya)) (j5 : m (Str.ofString "kept") = some (.ref ktA))
    (b1 : Bears w news qa (tobj (fm low qv) u1 u2 u3 u4 un')) (b2 : Bears w news ya (tobj (fm low yv) w1 w2 w3 w4 wn)) (k1 : (ktA, listOf kvs.toArray kn) ∈ news) (hkl : kvs.length ≤ 10)
    (rq : Rep pv.toNat qv) (ry : Rep pv.toNat yv) (cq : qv.natAbs < 2 ^ 290) (cy : yv.natAbs < 2 ^ 290)
    (hQ : ∀ h' tk' m' nf qa' kvs' n', Fr h₀ L h' m' → News h₀ L h' nf → Same ["s", "e", "q"] m m' → m' (Str.ofString "q") = some (.ref qa') → Tn w nf (.ref qa') (fm low (RN pv.toNat (qv + yv))) → Kept w ktA news nf → (ktA, listOf kvs'.toArray n') ∈ nf →
      ((qv + yv - RN pv.toNat (qv + yv) = 0 ∧ kvs' = kvs) ∨ (qv + yv - RN pv.toNat (qv + yv) ≠ 0 ∧ ∃ ev, kvs' = kvs ++ [ev] ∧ Tn w nf ev (fm low (qv + yv - RN pv.toNat (qv + yv))))) → Q .next ⟨h', g, d, tk', o⟩) :
    wpAny (model PySem.Challenge.rw_aa5008_01.prog w) (ktrTop dp un gd (Str.ofString "law") (lawScope w) L fa ccd [] outer) (execs (forBody (stAt (forBody (stAt (lawBody w) 7)) 7)) (envOf (Str.ofString "law") (lawScope w) L fa ccd)) Q E ⟨h, g, d, tk, o⟩ := by
  have hp0 : 0 < pv.toNat := by have := hf.p0; omega
  have d1 : Rep pv.toNat (RN pv.toNat (qv + yv)) := RN_rep hp0
  have d2 : Rep pv.toNat (qv + yv - RN pv.toNat (qv + yv)) := rep_loss hp0 rq ry
  have d3 : (RN pv.toNat (qv + yv)).natAbs < 2 ^ 300 := nat_small (RN_small hp0 (add_small cq cy)) (by omega)
  have d4 : (qv + yv - RN pv.toNat (qv + yv)).natAbs < 2 ^ 300 := nat_small (sub_small (nat_small (add_small cq cy) (by omega)) (RN_small hp0 (add_small cq cy))) (by omega)
  have cq' : qv.natAbs < 2 ^ 300 := nat_small cq (by omega)
  have cy' : yv.natAbs < 2 ^ 300 := nat_small cy (by omega)
  have z1 := (fm_is low (qv + yv - RN pv.toNat (qv + yv))).v0
  with_unfolding_all (conv in (execs _ _) => arg 1; whnf)
  show wpAny _ _ _ _ _ _
  (try k_fold)
  k_steps
  · rename Kept _ _ _ _ => K9
    exact hQ _ _ _ _ _ _ _ (by k_asm) (by k_asm) (((Same.refl.set (by simp)).set (by simp)).set (by simp)) (by (first | with_reducible exact look_here | with_reducible assumption | (simp only [ofString_eq, mapOf, String.reduceEq, ↓reduceIte] <;> first | rfl | with_reducible assumption))) (K9.tn _ _ (Tn.of_bears (by with_reducible assumption) rfl)) (K9.after sub_app) (by with_reducible assumption) (.inr ⟨fun h9 => absurd (z1.mpr h9) (by with_reducible assumption), _, rfl, K9.tn _ _ (Tn.of_bears (by with_reducible assumption) rfl)⟩)
  · exact hQ _ _ _ _ _ _ _ (by k_asm) (by k_asm) (((Same.refl.set (by simp)).set (by simp)).set (by simp)) (by (first | with_reducible exact look_here | with_reducible assumption | (simp only [ofString_eq, mapOf, String.reduceEq, ↓reduceIte] <;> first | rfl | with_reducible assumption))) (Tn.of_bears (by with_reducible assumption) rfl) (Kept.of_sub sub_app) (List.mem_append_left _ k1) (.inl ⟨z1.mp (by with_reducible assumption), rfl⟩)
end Mine

-- C15
set_option maxRecDepth 100000
namespace Mine
open PySem PySem.W PyProof.Rows PySem.Spec PySem.Calls

theorem Kept.trans {w : World} {l : Addr} {a b c : List (Addr × Obj)} (h : Kept w l a b) (k : Kept w l b c) : Kept w l a c :=
  ⟨fun q hq hn => k.oth q (h.oth q hq hn) hn, fun v t hT => k.tn v t (h.tn v t hT), fun q hq hc => k.non q (h.non q hq hc) hc, fun a t k1 k2 k3 k4 n hb => k.be a t k1 k2 k3 k4 n (h.be a t k1 k2 k3 k4 n hb)⟩
theorem Kept.tlf {w : World} {l B : Addr} {a b : List (Addr × Obj)} (h : Kept w l a b) (hB : ∀ q ∈ a, @LT.lt Nat _ q.1 B) : Kept w l a (tlf B b) :=
  ⟨fun q hq hn => mem_tlf_old (h.oth q hq hn) (hB q hq), fun v t hT => (h.tn v t hT).tl, fun q hq hc => mem_tlf_old (h.non q hq hc) (hB q hq), fun a t k1 k2 k3 k4 n hb => (h.be a t k1 k2 k3 k4 n hb).tl rfl⟩
/-- the row's loop, after i parts -/
structure L3J (w : World) (pv low u : Int) (ktA : Addr) (rs : List Int) (Bd : Nat) (m0 : Str → Option Value) (base : List (Addr × Obj)) (i : Nat) (m : Str → Option Value) (nx : List (Addr × Obj)) : Prop where
  same : Same ["s", "e", "q", "y"] m0 m
  kp : Kept w ktA base nx
  st : ∃ qa qv ks kvs kn, m (Str.ofString "q") = some (.ref qa) ∧ Tn w nx (.ref qa) (fm low qv) ∧ Rep pv.toNat qv ∧ qv.natAbs ≤ 2 ^ (Bd + i) ∧ (ktA, listOf kvs.toArray kn) ∈ nx ∧ AllT w nx low kvs ks ∧ ks.length ≤ i ∧
    ks ++ grow pv.toNat qv (rs.drop i) = grow pv.toNat u rs
set_option maxHeartbeats 40000000 in
theorem law_L3 {w : World} {fa : Addr} {p : Program} {loose : List Str} {mean : ExcName → Option Value} {mg mb : Str → Option Value} {dp un : Nat} {gd : Option (List Code)} {ccd : Value} {outer : List Env} {A₀ : Around} {base h₀ : Heap} {L : Addr} {m : Str → Option Value} {news : List (Addr × Obj)} {Q : Flow → Shared → Prop} {E : Value → Shared → Prop} {h : Heap} {g : Array GenState} {d : Drawn} {tk : Nat} {o : OsState} {l : Addr} {vs0 : List Value} {ns : List Int} (B : Below A₀ base outer h₀) (F : Fr h₀ L h m) (X : (Mine.hd.heap_39 w.params).In h₀) (N : News h₀ L h news) (T : Top p loose mean mg mb h₀) (hd : dp + 40 < recursionLimit) (hu : un + 400 < cLine) (hL : base.IsList l vs0.toArray) (hi : IntsAre vs0 ns) (hlen : ns.length ≤ 63) {Q' : Flow → Shared → Prop} {pv low u : Int} {rwA ktA qa : Addr} {rvs : List Value} {rs : List Int} {rn' Bd : Nat} {s2 s3 : Tok} (hf : Fit pv low)
    (k1 : (rwA, listOf rvs.toArray rn') ∈ news) (hal : AllT w news low rvs rs) (k2 : (ktA, listOf ([] : List Value).toArray 0) ∈ news) (hne : rwA ≠ ktA)
    (j1 : m (Str.ofString "q") = some (.ref qa)) (j2 : m (Str.ofString "p") = some (.int pv s2)) (j3 : m (Str.ofString "low") = some (.int low s3)) (j5 : m (Str.ofString "kept") = some (.ref ktA))
    (hq : Tn w news (.ref qa) (fm low u)) (ru : Rep pv.toNat u) (hrep : ∀ r ∈ rs, Rep pv.toNat r) (hBd : Bd ≤ 240) (bu : u.natAbs ≤ 2 ^ Bd) (brs : ∀ r ∈ rs, r.natAbs ≤ 2 ^ Bd) (hlen5 : rs.length ≤ 5)
    (hcont : ∀ h' tk' m' nf qa' qv ks kvs kn, Fr h₀ L h' m' → News h₀ L h' nf → Same ["s", "e", "q", "y"] m m' → Kept w ktA news nf → m' (Str.ofString "q") = some (.ref qa') → Tn w nf (.ref qa') (fm low qv) →
      (ktA, listOf kvs.toArray kn) ∈ nf → AllT w nf low kvs ks → ks.length ≤ rs.length → ks ++ (if qv = 0 then [] else [qv]) = grow pv.toNat u rs → Q' .next ⟨h', g, d, tk', o⟩) :
    wpAny (model PySem.Challenge.rw_aa5008_01.prog w) (ktrTop dp un gd (Str.ofString "law") (lawScope w) L fa ccd [] outer) (pyIter (.ref rwA))
      (fun it s₂ => LoopAtV PySem.Challenge.rw_aa5008_01.prog w (ktrTop dp un gd (Str.ofString "law") (lawScope w) L fa ccd [] outer) h₀ (envOf (Str.ofString "law") (lawScope w) L fa ccd) (Str.ofString "y") (forBody (stAt (forBody (stAt (lawBody w) 7)) 7)) Q' E it s₂) E ⟨h, g, d, tk, o⟩ := by
  refine loop_list (L3J w pv low u ktA rs Bd m news) rfl k1 F N ?_ ?_ ?_
  · exact ⟨Same.refl, Kept.of_sub sub_refl, qa, u, [], [], 0, j1, hq, ru, by simpa using bu, k2, AllT.nil, Nat.le_refl _, by simp⟩
  · intro i v m₁ nx h₂ tk₂ own hi2 hJ hown F9 N9
    obtain ⟨sm, kp, qa₁, qv, ks, kvs, kn, e1, e2, e3, e4, e5, e6, e7, e8⟩ := hJ
    obtain ⟨yv, hy1, hy2⟩ := hal.get hi2
    have hyr : yv ∈ rs := List.mem_of_getElem? hy1
    have hil : i < rs.length := (List.getElem?_eq_some_iff.mp hy1).1
    have hsub : ∀ q ∈ nx, q ∈ own ++ nx := fun q hq => List.mem_append_right _ hq
    obtain ⟨qa₂, u1, u2, u3, u4, un1, er, b1⟩ := e2.mono hsub
    cases er
    obtain ⟨ya, w1, w2, w3, w4, wn1, rfl, b2⟩ := (kp.tn _ _ hy2).mono hsub
    have l2 := sm "p" (by simp)
    have l3 := sm "low" (by simp)
    have l5 := sm "kept" (by simp)
    rw [j2] at l2
    rw [j3] at l3
    rw [j5] at l5
    have c4 : qv.natAbs < 2 ^ 290 := Nat.lt_of_le_of_lt e4 (Nat.pow_lt_pow_right (by decide) (by omega))
    have c5 : yv.natAbs < 2 ^ 290 := Nat.lt_of_le_of_lt (brs yv hyr) (Nat.pow_lt_pow_right (by decide) (by omega))
    have hsm : Same ["s", "e", "q", "y"] m (fun z => if z = Str.ofString "y" then some (.ref ya) else m₁ z) := sm.set (by simp)
    have hp0 : 0 < pv.toNat := by have := hf.p0; omega
    have hdrop : rs.drop i = yv :: rs.drop (i + 1) := by
      obtain ⟨hh, hv⟩ := List.getElem?_eq_some_iff.mp hy1
      rw [← hv]
      exact List.drop_eq_getElem_cons hh
    refine l3_turn B F9 X N9 T hd hu hL hi hlen hf (qa := qa₁) (ya := ya) (ktA := ktA) (by (first | with_reducible exact look_here | with_reducible assumption | (simp only [ofString_eq, mapOf, String.reduceEq, ↓reduceIte] <;> first | rfl | with_reducible assumption))) (by (first | with_reducible exact look_here | with_reducible assumption | (simp only [ofString_eq, mapOf, String.reduceEq, ↓reduceIte] <;> first | rfl | with_reducible assumption))) (by (first | with_reducible exact look_here | with_reducible assumption | (simp only [ofString_eq, mapOf, String.reduceEq, ↓reduceIte] <;> first | rfl | with_reducible assumption))) (by (first | with_reducible exact look_here | with_reducible assumption | (simp only [ofString_eq, mapOf, String.reduceEq, ↓reduceIte] <;> first | rfl | with_reducible assumption))) (by (first | with_reducible exact look_here | with_reducible assumption | (simp only [ofString_eq, mapOf, String.reduceEq, ↓reduceIte] <;> first | rfl | with_reducible assumption))) b1 b2 (hsub _ e5) (by rw [e6.1]; omega) e3 (hrep yv hyr) c4 c5 ?_
    intro h' tk' m' nf qa' kvs' n' F' N' sm' jq' tq' K' k' hcase
    show TurnEnd _ _ _ _ _ _ _ _ _
    refine TurnEnd.intro F' N' (fun q hq => ?_) (fun B9 hB9 => ?_)
    · cases hc : isTL q.2 with
      | false => exact K'.non q (List.mem_append_left _ hq) hc
      | true => exact K'.oth q (List.mem_append_left _ hq) (by rw [hown q hq hc]; exact hne)
    · have kp2 : Kept w ktA news nf := kp.trans (K'.after hsub)
      have sm2 : Same ["s", "e", "q", "y"] m m' := hsm.trans (sm'.wide (by simp))
      have hb : (RN pv.toNat (qv + yv)).natAbs ≤ 2 ^ (Bd + (i + 1)) := by
        refine RN_bound hp0 ?_
        have h1 := brs yv hyr
        have h2 : 2 ^ Bd ≤ 2 ^ (Bd + i) := pow_le_of (by omega)
        have h3 : 2 ^ (Bd + (i + 1)) = 2 ^ (Bd + i) * 2 := by rw [← Nat.pow_succ]; rfl
        omega
      have hal6 : AllT w nf low kvs ks := K'.all (e6.mono hsub)
      rw [hdrop] at e8
      have hg : ∀ r, grow pv.toNat qv (yv :: r) = if qv + yv - RN pv.toNat (qv + yv) = 0 then grow pv.toNat (RN pv.toNat (qv + yv)) r else (qv + yv - RN pv.toNat (qv + yv)) :: grow pv.toNat (RN pv.toNat (qv + yv)) r := fun _ => rfl
      rcases hcase with ⟨hz, hkv⟩ | ⟨hz, ev, hkv, hev⟩
      · subst hkv
        rw [hg, if_pos hz] at e8
        exact ⟨sm2, kp2.tlf hB9, qa', RN pv.toNat (qv + yv), ks, kvs', n', jq', tq'.tl, RN_rep hp0, hb, mem_tlf k' isTL_list, hal6.tl, by omega, e8⟩
      · subst hkv
        rw [hg, if_neg hz] at e8
        exact ⟨sm2, kp2.tlf hB9, qa', RN pv.toNat (qv + yv), ks ++ [_], kvs ++ [ev], n', jq', tq'.tl, RN_rep hp0, hb, mem_tlf k' isTL_list, (hal6.push hev).tl, by simp; omega, by rw [← e8]; simp⟩
  · intro m₁ nx h₂ tk₂ hJ F9 N9
    obtain ⟨sm, kp, qa₁, qv, ks, kvs, kn, e1, e2, e3, e4, e5, e6, e7, e8⟩ := hJ
    rw [hal.1] at e7 e8
    rw [List.drop_length] at e8
    exact hcont _ _ _ _ qa₁ qv ks kvs kn F9 N9 sm kp e1 e2 e5 e6 e7 e8
end Mine

-- C16
set_option maxRecDepth 100000
namespace Mine
open PySem PySem.W PyProof.Rows PySem.Spec PySem.Calls
local macro_rules | `(tactic| walk_at "never 0") => `(tactic| fail "never")
local macro_rules | `(tactic| walk_at "never 1") => `(tactic| fail "never")
local macro_rules | `(tactic| walk_at "never 2") => `(tactic| fail "never")
local macro_rules | `(tactic| walk_at "never 3") => `(tactic| fail "never")
local macro_rules | `(tactic| walk_at "never 4") => `(tactic| fail "never")
-- the walk's own lines: each step's token and heap named anew
local macro_rules | `(tactic| walk_at "binaryOp Add int int") => `(tactic| (with_reducible refine add_T ?_; intro _ _))
local macro_rules | `(tactic| walk_at "binaryOp Sub int int") => `(tactic| (with_reducible refine sub_T ?_; intro _ _))
local macro_rules | `(tactic| walk_at "binaryOp BitAnd int int") => `(tactic| (with_reducible refine and_T ?_; intro _ _))
local macro_rules | `(tactic| walk_at "binaryOp BitXor int int") => `(tactic| (with_reducible refine xor_T ?_; intro _ _))
local macro_rules | `(tactic| walk_at "inplaceOp Add int int") => `(tactic| (with_reducible refine iadd_T ?_; intro _ _))
local macro_rules | `(tactic| walk_at "inplaceOp Sub int int") => `(tactic| (with_reducible refine isub_T ?_; intro _ _))
local macro_rules | `(tactic| walk_at "inplaceOp BitXor int int") => `(tactic| (with_reducible refine ixor_T ?_; intro _ _))
local macro_rules | `(tactic| walk_at "binaryOp RShift int int") => `(tactic| ((with_reducible refine rsh_T ?_ ?_); omega; intro _ _))
local macro_rules | `(tactic| walk_at "inplaceOp RShift int int") => `(tactic| ((with_reducible refine irsh_T ?_ ?_); omega; intro _ _))
local macro_rules | `(tactic| walk_at "binaryOp LShift int int") => `(tactic| ((with_reducible refine lsh_T ?_ ?_ ?_); omega; (try simp only [bits_one]); omega; intro _ _))
local macro_rules | `(tactic| walk_at "inplaceOp LShift int int") => `(tactic| ((with_reducible refine ilsh_T ?_ ?_ ?_); omega; (try simp only [bits_one]); omega; intro _ _))
local macro_rules | `(tactic| walk_at "unaryOp USub int") => `(tactic| (with_reducible refine neg_T ?_; intro _ _))
local macro_rules | `(tactic| walk_at "call builtin:int.bit_length") => `(tactic| (with_reducible refine bits_T ?_; intro _ _))
local macro_rules | `(tactic| walk_at "eval Constant int") => `(tactic| (with_reducible refine const_T ?_; intro _ _))
local macro_rules | `(tactic| walk_at "storeName") => `(tactic| (k_here; k_dflt (refine' store_T ?F ?N ?_ ?a ?b; (case F => k_asm); (case N => k_asm); (case a => rfl); (case b => rfl); k_whole); intro h' tk' F' N'; (try k_sweep)))
local macro_rules | `(tactic| walk_at "newTuple") => `(tactic| (k_here; k_dflt (refine' tuple_T ?F ?N ?s ?_; (case F => k_asm); (case N => k_asm); (case s => decide); k_whole); intro h' r' F' N'; (try k_sweep)))
local macro_rules | `(tactic| walk_at "assign Tuple") => `(tactic| (k_here; (with_reducible show wpAny _ _ (assign (Expr.Tuple _ _ _) _ (Value.ref _)) _ _ _); k_dflt (refine' unpack_T ?B ?F ?X ?N ?a ?b ?c ?_; (case F => k_asm); (case X => k_asm); (case N => k_asm); (case B => (repeat (first | assumption | with_reducible exact Bears.here | exact finfB _ _ | exact fninfB _ _ | exact fzeroB _ _ | with_reducible refine Bears.cons ?_ | with_reducible refine Bears.app ?_))); (case a => rfl); (case b => rfl); (case c => rfl); k_whole); intro h' F' N'; (try k_sweep)))
local macro_rules | `(tactic| walk_at "ite") => `(tactic| with_reducible first
  | (refine dec_split ?_ ?_ <;> intro _) | (refine bne_split ?_ ?_ <;> intro _) | (refine beq_split ?_ ?_ <;> intro _))
local macro_rules | `(tactic| walk_at "compareOp Eq ref ref") => `(tactic| (k_here; k_dflt (first
  | (refine' eq_T ?B ?C ?F ?X ?N ?u ?_; (case F => k_asm); (case X => k_asm); (case N => k_asm); (case B => (repeat (first | assumption | with_reducible exact Bears.here | exact finfB _ _ | exact fninfB _ _ | exact fzeroB _ _ | with_reducible refine Bears.cons ?_ | with_reducible refine Bears.app ?_))); (case C => (repeat (first | assumption | with_reducible exact Bears.here | exact finfB _ _ | exact fninfB _ _ | exact fzeroB _ _ | with_reducible refine Bears.cons ?_ | with_reducible refine Bears.app ?_))); (case u => ((try dsimp only [Around.deeper, Around.in1, ktrTop]); omega)); k_whole)
  | (refine' eqL_T ?B ?C ?F ?X ?N ?u ?_; (case F => k_asm); (case X => k_asm); (case N => k_asm); (case B => (repeat (first | assumption | with_reducible exact Bears.here | exact finfB _ _ | exact fninfB _ _ | exact fzeroB _ _ | with_reducible refine Bears.cons ?_ | with_reducible refine Bears.app ?_))); (case C => (repeat (first | assumption | with_reducible exact Bears.here | exact finfB _ _ | exact fninfB _ _ | exact fzeroB _ _ | with_reducible refine Bears.cons ?_ | with_reducible refine Bears.app ?_))); (case u => ((try dsimp only [Around.deeper, Around.in1, ktrTop]); omega)); k_whole))))
local macro_rules | `(tactic| walk_at "compareOp NotEq ref ref") => `(tactic| (k_here; k_dflt (refine' ne_T ?B ?C ?F ?X ?N ?u ?_; (case F => k_asm); (case X => k_asm); (case N => k_asm); (case B => (repeat (first | assumption | with_reducible exact Bears.here | exact finfB _ _ | exact fninfB _ _ | exact fzeroB _ _ | with_reducible refine Bears.cons ?_ | with_reducible refine Bears.app ?_))); (case C => (repeat (first | assumption | with_reducible exact Bears.here | exact finfB _ _ | exact fninfB _ _ | exact fzeroB _ _ | with_reducible refine Bears.cons ?_ | with_reducible refine Bears.app ?_))); (case u => ((try dsimp only [Around.deeper, Around.in1, ktrTop]); omega)); k_whole)))
local macro_rules | `(tactic| walk_at "subscriptTail") => `(tactic| (k_here; (with_reducible show wpAny _ _ (subscriptTail _ _ (Value.ref _) (Value.int _ _)) _ _ _); k_dflt (refine' item_T ?B ?F ?X ?N ?i ?x ?_ ?s; (case F => k_asm); (case X => k_asm); (case N => k_asm); (case B => (repeat (first | assumption | with_reducible exact Bears.here | exact finfB _ _ | exact fninfB _ _ | exact fzeroB _ _ | with_reducible refine Bears.cons ?_ | with_reducible refine Bears.app ?_))); (case i => omega); (case x => rfl); (case s => with_unfolding_all rfl); k_whole)))
local macro_rules | `(tactic| walk_at "binaryOp Pow int int") => `(tactic| ((with_reducible refine pow_T ?_ ?_ ?_ ?_); omega; omega; omega; intro _ _))
local macro_rules | `(tactic| walk_at "ite") => `(tactic| with_reducible first
  | (refine eqb_tt (by assumption) ?_) | (refine eqb_ff (by assumption) ?_) | (refine eqb_ff_e (by (dsimp only; omega)) ?_))
local macro_rules | `(tactic| walk_at "ite") => `(tactic| with_reducible first
  | (refine dec_tt (by omega) ?_) | (refine dec_ff (by omega) ?_) | (refine bne_tt (by omega) ?_) | (refine bne_ff (by omega) ?_) | (refine beq_tt (by omega) ?_) | (refine beq_ff (by omega) ?_) | (refine not_ite ?_))
local macro_rules | `(tactic| walk_at "eval Name") => `(tactic| (k_here; k_dflt (refine' name_G ?F ?X ?T ?e ?_ ?a ?b ?c; (case F => k_asm); (case X => k_asm); (case T => k_asm); (case e => k_is); (case b => kernel_rfl);  (case a => rfl); (case c => kernel_rfl); k_whole)))
local macro_rules | `(tactic| walk_at "eval Name") => `(tactic| (k_here; k_dflt (refine' name_T ?F ?v ?_ ?a ?b ?c; (case F => k_asm); (case v => (first | with_reducible exact look_here | with_reducible assumption | (simp only [ofString_eq, mapOf, String.reduceEq, ↓reduceIte] <;> first | rfl | with_reducible assumption))); (case b => kernel_rfl); (case a => rfl); (case c => kernel_rfl); k_whole)))
local macro_rules | `(tactic| walk_at "loadName") => `(tactic| (k_here; k_dflt (refine' loadn_T ?F ?v ?_ ?a ?b; (case F => k_asm); (case v => (first | with_reducible exact look_here | with_reducible assumption | (simp only [ofString_eq, mapOf, String.reduceEq, ↓reduceIte] <;> first | rfl | with_reducible assumption))); (case b => kernel_rfl); (case a => rfl); k_whole)))
local macro_rules | `(tactic| walk_at "exec If") => `(tactic| with_reducible refine wpAny_If ?_)
local macro_rules | `(tactic| walk_at "exec For Name Name cons nil") => `(tactic| (refine Stop.intro ?_))
local macro_rules | `(tactic| walk_at "exec For Name Call cons nil") => `(tactic| (refine Stop.intro ?_))
local macro_rules | `(tactic| walk_at "exec While Compare cons nil") => `(tactic| (refine Stop.intro ?_))
local macro_rules | `(tactic| walk_at "exec While BoolOp cons nil") => `(tactic| (refine Stop.intro ?_))
local macro_rules | `(tactic| walk_at "call builtin:isinstance") => `(tactic| (k_here; (with_reducible show wpAny _ _ (call (Value.builtin "isinstance") [Value.ref _, Value.type "tuple"]) _ _ _); k_dflt (refine' isi_T ?B ?F ?X ?N ?_; (case F => k_asm); (case X => k_asm); (case N => k_asm); (case B => (repeat (first | assumption | with_reducible exact Bears.here | exact finfB _ _ | exact fninfB _ _ | exact fzeroB _ _ | with_reducible refine Bears.cons ?_ | with_reducible refine Bears.app ?_))); k_whole)))
local macro_rules | `(tactic| walk_at "call builtin:len") => `(tactic| (k_here; (with_reducible show wpAny _ _ (call (Value.builtin "len") [Value.ref _]) _ _ _); k_dflt (refine' len_T ?B ?F ?X ?N ?_; (case F => k_asm); (case X => k_asm); (case N => k_asm); (case B => (repeat (first | assumption | with_reducible exact Bears.here | exact finfB _ _ | exact fninfB _ _ | exact fzeroB _ _ | with_reducible refine Bears.cons ?_ | with_reducible refine Bears.app ?_))); k_whole); intro _ _))
local macro_rules | `(tactic| walk_at "call builtin:divmod") => `(tactic| (k_here; k_dflt (refine' divmod_T ?F ?N ?b ?p ?_; (case F => k_asm); (case N => k_asm); (case b => first | with_reducible assumption | omega); (case p => with_reducible assumption); k_whole); intro h' r' t1' t2' tk' F' N'; (try k_sweep)))
local macro_rules | `(tactic| walk_at "inplaceOp FloorDiv int int") => `(tactic| ((with_reducible refine ifdiv_T ?_ ?_ ?_); decide; decide +kernel; intro _ _))
local macro_rules | `(tactic| walk_at "binaryOp Mod int int") => `(tactic| ((with_reducible refine mod_T ?_ ?_); omega; intro _ _))
local macro_rules | `(tactic| walk_at "subscriptTail") => `(tactic| (k_here; (with_reducible show wpAny _ _ (subscriptTail _ _ (Value.ref _) (Value.int _ _)) _ _ _); k_dflt (refine' litem_T ?M ?N ?a ?b ?x ?_ ?s; (case N => k_asm); (case M => (repeat (first | with_reducible assumption | with_reducible exact List.mem_cons_self | with_reducible refine List.mem_cons_of_mem _ ?_ | with_reducible refine List.mem_append_left _ ?_ | (refine Kept.oth (by with_reducible assumption) _ ?_ ?_; rotate_left; with_reducible assumption)))); (case a => omega); (case b => omega); (case x => with_reducible assumption); (case s => with_unfolding_all rfl); k_whole)))
local macro_rules | `(tactic| walk_at "subscriptTail") => `(tactic| (k_here; (with_reducible show wpAny _ _ (subscriptTail _ _ (Value.ref _) (Value.int (-1) _)) _ _ _); k_dflt (refine' litemN_T ?M ?N ?a ?b ?x ?_ ?s; (case N => k_asm); (case M => (repeat (first | with_reducible assumption | with_reducible exact List.mem_cons_self | with_reducible refine List.mem_cons_of_mem _ ?_ | with_reducible refine List.mem_append_left _ ?_ | (refine Kept.oth (by with_reducible assumption) _ ?_ ?_; rotate_left; with_reducible assumption)))); (case a => rfl); (case b => omega); (case x => with_reducible assumption); (case s => with_unfolding_all rfl); k_whole)))
local macro_rules | `(tactic| walk_at "truthy ref") => `(tactic| (k_here; k_dflt (refine' ltruthy_T ?M ?N ?z ?_; (case N => k_asm); (case M => (repeat (first | with_reducible assumption | with_reducible exact List.mem_cons_self | with_reducible refine List.mem_cons_of_mem _ ?_ | with_reducible refine List.mem_append_left _ ?_ | (refine Kept.oth (by with_reducible assumption) _ ?_ ?_; rotate_left; with_reducible assumption)))); (case z => first | omega | (simp only [List.length_append, List.length_cons, List.length_nil]; omega)); k_whole); intro _))
local macro_rules | `(tactic| walk_at "call builtin:len") => `(tactic| (k_here; (with_reducible show wpAny _ _ (call (Value.builtin "len") [Value.ref _]) _ _ _); k_dflt (refine' llen_T ?M ?N ?z ?_; (case N => k_asm); (case M => (repeat (first | with_reducible assumption | with_reducible exact List.mem_cons_self | with_reducible refine List.mem_cons_of_mem _ ?_ | with_reducible refine List.mem_append_left _ ?_ | (refine Kept.oth (by with_reducible assumption) _ ?_ ?_; rotate_left; with_reducible assumption)))); (case z => first | omega | (simp only [List.length_append, List.length_cons, List.length_nil]; omega)); k_whole); intro _ _))
local macro_rules | `(tactic| walk_at "call builtin:list.append") => `(tactic| (k_here; (with_reducible show wpAny _ _ (call (Value.builtin _) [Value.ref _, _]) _ _ _); k_dflt (refine' append_T (w := _) ?M ?F ?N ?z ?_; (case F => k_asm); (case N => k_asm); (case M => (repeat (first | with_reducible assumption | with_reducible exact List.mem_cons_self | with_reducible refine List.mem_cons_of_mem _ ?_ | with_reducible refine List.mem_append_left _ ?_ | (refine Kept.oth (by with_reducible assumption) _ ?_ ?_; rotate_left; with_reducible assumption)))); (case z => first | omega | (simp only [List.length_append, List.length_cons, List.length_nil]; omega))); intro h' nw' F' N' hin' hk'; (try k_sweep)))
local macro_rules | `(tactic| walk_at "call type:list") => `(tactic| (k_here; (with_reducible show wpAny _ _ (call (Value.type _) [Value.ref _]) _ _ _); k_dflt (refine' lcopy_T ?M ?F ?N ?z ?_; (case F => k_asm); (case N => k_asm); (case M => (repeat (first | with_reducible assumption | with_reducible exact List.mem_cons_self | with_reducible refine List.mem_cons_of_mem _ ?_ | with_reducible refine List.mem_append_left _ ?_ | (refine Kept.oth (by with_reducible assumption) _ ?_ ?_; rotate_left; with_reducible assumption)))); (case z => first | omega | (simp only [List.length_append, List.length_cons, List.length_nil]; omega)); k_whole); intro h' D' c' F' N' hne'; (try k_sweep)))
local macro_rules | `(tactic| walk_at "newList") => `(tactic| (k_here; k_dflt (refine' newlist_T ?F ?N ?_; (case F => k_asm); (case N => k_asm); k_whole); intro h' D' F' N' hne'; (try k_sweep)))
local macro_rules | `(tactic| walk_at "subscriptTail") => `(tactic| (k_here; (with_reducible show wpAny _ _ (subscriptTail _ _ (Value.ref _) (Value.ref _)) _ _ _); k_dflt (with_unfolding_all refine' slice_T ?M ?F ?N ?a ?z ?_ ?s ?t; (case F => k_asm); (case N => k_asm); (case M => (repeat (first | with_reducible assumption | with_reducible exact List.mem_cons_self | with_reducible refine List.mem_cons_of_mem _ ?_ | with_reducible refine List.mem_append_left _ ?_ | (refine Kept.oth (by with_reducible assumption) _ ?_ ?_; rotate_left; with_reducible assumption)))); (case a => omega); (case z => first | omega | (simp only [List.length_append, List.length_cons, List.length_nil]; omega)); (case s => with_unfolding_all rfl); (case t => intro _; with_unfolding_all rfl); k_whole); intro h' D' F' N' hne'; (try k_sweep)))
local macro_rules | `(tactic| walk_at "call ref") => `(tactic| (k_here; (with_reducible show wpAny _ _ (call (Value.ref 121) _) _ _ _); k_dflt (refine' DrawGives.use (g_draw _ _ _ _ _ _ _ ?hi ?hl ?i0 ?i1 ?n0 ?n1) ?hL ?B ?F ?X ?N ?T ?hk ?hd ?hu ?_; (case hL => k_asm); (case hi => first | k_asm | exact Hid.un (by with_reducible assumption)); (case hl => with_reducible assumption); (case i0 => omega); (case i1 => omega); (case n0 => omega); (case n1 => omega); (case B => k_asm); (case F => k_asm); (case X => k_asm); (case N => k_asm); (case T => k_asm); (case hk => rfl); (case hd => ((try dsimp only [Around.deeper, Around.in1, ktrTop]); omega)); (case hu => ((try dsimp only [Around.deeper, Around.in1, ktrTop]); omega)); k_whole); intro k' t' h' tk' F' N' hk1' hk2'; (try dsimp only); (try k_sweep)))
local macro_rules | `(tactic| walk_at "getMethod ref") => `(tactic| (k_here; (with_reducible show wpAny _ _ (getMethod (Value.ref _) (Str.ofString "append") _) _ _ _); k_dflt (refine' methA_T ?M ?N ?_; (case N => k_asm); (case M => (repeat (first | with_reducible assumption | with_reducible exact List.mem_cons_self | with_reducible refine List.mem_cons_of_mem _ ?_ | with_reducible refine List.mem_append_left _ ?_ | (refine Kept.oth (by with_reducible assumption) _ ?_ ?_; rotate_left; with_reducible assumption)))); k_whole)))
local macro_rules | `(tactic| walk_at "binaryOp Mult int int") => `(tactic| ((with_reducible refine mul_T ?_ ?_); intro _ _; rotate_left; first | exact IntMulOk.of_left (by decide) | exact mulOk_small (by omega) (by omega)))
local macro_rules | `(tactic| walk_at "binaryOp Mod int int") => `(tactic| ((with_reducible refine modP_T ?_ ?_); (first | omega | with_reducible assumption); intro r' _ _ hr' hr1' hr2'))

local macro_rules | `(tactic| walk_at "call type:range") => `(tactic| (k_here; (with_reducible show wpAny _ _ (call (Value.type "range") [Value.int _ _]) _ _ _); k_dflt (refine' range1_T ?F ?N ?_; (case F => k_asm); (case N => k_asm); k_whole); intro h' r' tk' t1' u1' v1' R' F' N'; (try k_sweep)))
local macro_rules | `(tactic| walk_at "call type:range") => `(tactic| (k_here; (with_reducible show wpAny _ _ (call (Value.type "range") [Value.int _ _, Value.int _ _]) _ _ _); k_dflt (refine' range2_T ?F ?N ?_; (case F => k_asm); (case N => k_asm); k_whole); intro h' r' tk' t1' u1' v1' R' F' N'; (try k_sweep)))
local macro_rules | `(tactic| walk_at "pyIter ref") => `(tactic| (refine Stop.intro ?_))
local macro_rules | `(tactic| walk_at "assign Tuple") => `(tactic| (k_here; (with_reducible show wpAny _ _ (assign (Expr.Tuple [_, _] _ _) _ (Value.ref _)) _ _ _); k_dflt (refine' unpack2_T ?B ?F ?X ?N ?a ?b ?c ?_; (case F => k_asm); (case X => k_asm); (case N => k_asm); (case B => (repeat (first | with_reducible assumption | with_reducible exact Bears.here | with_reducible refine Bears.cons ?_ | with_reducible refine Bears.app ?_))); (case a => rfl); (case b => rfl); (case c => rfl); k_whole); intro h' F' N'; (try k_sweep)))
local macro_rules | `(tactic| walk_at "compareOp NotEq ref ref") => `(tactic| (k_here; k_dflt (refine' lne_T ?M ?C ?A ?F ?X ?N ?u ?_; (case F => k_asm); (case X => k_asm); (case N => k_asm); (case M => (repeat (first | with_reducible assumption | with_reducible exact List.mem_cons_self | with_reducible refine List.mem_cons_of_mem _ ?_ | with_reducible refine List.mem_append_left _ ?_))); (case C => (repeat (first | with_reducible assumption | with_reducible exact List.mem_cons_self | with_reducible refine List.mem_cons_of_mem _ ?_ | with_reducible refine List.mem_append_left _ ?_))); (case A => (repeat (first | with_reducible assumption | with_reducible apply AllT.app | with_reducible apply AllT.cons))); (case u => ((try dsimp only [Around.deeper, Around.in1, ktrTop]); omega)); k_whole)))
theorem fill_C16 (w : World) : True := by
  refine fill_K w ?_
  k_fill
  intro _ _
  trivial

theorem ap_cmp {low a b : Int} (ha : a ≠ 0) (hb : b ≠ 0) (h : Ap a b) : (fm low a).e + (fm low a).b ≤ (fm low b).e := by
  have e1 : (fm low a).e = low + (tz a.natAbs : Nat) := by rw [fm_parts ha]
  have e2 : (fm low b).e = low + (tz b.natAbs : Nat) := by rw [fm_parts hb]
  have e3 : (fm low a).b = (bl (od a.natAbs) : Nat) := by rw [fm_parts ha]
  have la := bl_od (n := a.natAbs) (by omega)
  obtain ⟨z, hz⟩ := Dv.iff.mp h
  have hz0 : z ≠ 0 := by intro e; subst e; omega
  have := tz_mul_pow (bl a.natAbs) hz0
  rw [Nat.mul_comm, ← hz] at this
  omega
set_option maxHeartbeats 40000000 in
theorem l4_turn {w : World} {fa : Addr} {p : Program} {loose : List Str} {mean : ExcName → Option Value} {mg mb : Str → Option Value} {dp un : Nat} {gd : Option (List Code)} {ccd : Value} {outer : List Env} {A₀ : Around} {base h₀ : Heap} {L : Addr} {m : Str → Option Value} {news : List (Addr × Obj)} {Q : Flow → Shared → Prop} {E : Value → Shared → Prop} {h : Heap} {g : Array GenState} {d : Drawn} {tk : Nat} {o : OsState} {l : Addr} {vs0 : List Value} {ns : List Int} (B : Below A₀ base outer h₀) (F : Fr h₀ L h m) (X : (Mine.hd.heap_39 w.params).In h₀) (N : News h₀ L h news) (T : Top p loose mean mg mb h₀) (hd : dp + 40 < recursionLimit) (hu : un + 400 < cLine) (hL : base.IsList l vs0.toArray) (hi : IntsAre vs0 ns) (hlen : ns.length ≤ 63) {i : Int} {rwA a0 a1 : Addr} {rvs : List Value} {rn' : Nat} {x y : T4} {u1 u2 u3 u4 w1 w2 w3 w4 s1 : Tok} {un' wn : Nat} (i0 : 1 ≤ i) (i1 : i < 100)
    (j1 : m (Str.ofString "rows") = some (.ref rwA)) (j2 : m (Str.ofString "j") = some (.int i s1)) (k1 : (rwA, listOf rvs.toArray rn') ∈ news)
    (hx0 : rvs[(i - 1).toNat]? = some (.ref a0)) (hx1 : rvs[i.toNat]? = some (.ref a1)) (b1 : Bears w news a0 (tobj x u1 u2 u3 u4 un')) (b2 : Bears w news a1 (tobj y w1 w2 w3 w4 wn)) (hle : x.e + x.b ≤ y.e)
    (hQ : ∀ h' tk', Fr h₀ L h' m → News h₀ L h' news → Q .next ⟨h', g, d, tk', o⟩) :
    wpAny (model PySem.Challenge.rw_aa5008_01.prog w) (ktrTop dp un gd (Str.ofString "law") (lawScope w) L fa ccd [] outer) (execs (forBody (stAt (forBody (stAt (lawBody w) 7)) 10)) (envOf (Str.ofString "law") (lawScope w) L fa ccd)) Q E ⟨h, g, d, tk, o⟩ := by
  with_unfolding_all (conv in (execs _ _) => arg 1; whnf)
  show wpAny _ _ _ _ _ _
  (try k_fold)
  k_steps
  all_goals exact hQ _ _ (by k_asm) (by k_asm)
structure L4J (m0 : Str → Option Value) (base : List (Addr × Obj)) (i : Nat) (m : Str → Option Value) (nx : List (Addr × Obj)) : Prop where
  same : Same ["j"] m0 m
  sub : ∀ q ∈ base, q ∈ nx
set_option maxHeartbeats 40000000 in
theorem law_L4 {w : World} {fa : Addr} {p : Program} {loose : List Str} {mean : ExcName → Option Value} {mg mb : Str → Option Value} {dp un : Nat} {gd : Option (List Code)} {ccd : Value} {outer : List Env} {A₀ : Around} {base h₀ : Heap} {L : Addr} {m : Str → Option Value} {news : List (Addr × Obj)} {Q : Flow → Shared → Prop} {E : Value → Shared → Prop} {h : Heap} {g : Array GenState} {d : Drawn} {tk : Nat} {o : OsState} {l : Addr} {vs0 : List Value} {ns : List Int} (B : Below A₀ base outer h₀) (F : Fr h₀ L h m) (X : (Mine.hd.heap_39 w.params).In h₀) (N : News h₀ L h news) (T : Top p loose mean mg mb h₀) (hd : dp + 40 < recursionLimit) (hu : un + 400 < cLine) (hL : base.IsList l vs0.toArray) (hi : IntsAre vs0 ns) (hlen : ns.length ≤ 63) {Q' : Flow → Shared → Prop} {pv low n : Int} {r rwA : Addr} {t1 u1 v1 : Tok} {rvs : List Value} {rs : List Int} {rn' : Nat} (R : IsRange h r 1 n 1 t1 u1 v1) (hn : n = (rvs.length : Nat)) (n5 : n ≤ 20)
    (j1 : m (Str.ofString "rows") = some (.ref rwA)) (k1 : (rwA, listOf rvs.toArray rn') ∈ news) (hal : AllT w news low rvs rs) (hok : RowOk pv.toNat rs)
    (hcont : ∀ h' tk' m' nf, Fr h₀ L h' m' → News h₀ L h' nf → Same ["j"] m m' → (∀ q ∈ news, q ∈ nf) → Q' .next ⟨h', g, d, tk', o⟩) :
    wpAny (model PySem.Challenge.rw_aa5008_01.prog w) (ktrTop dp un gd (Str.ofString "law") (lawScope w) L fa ccd [] outer) (pyIter (.ref r))
      (fun it s₂ => LoopAtV PySem.Challenge.rw_aa5008_01.prog w (ktrTop dp un gd (Str.ofString "law") (lawScope w) L fa ccd [] outer) h₀ (envOf (Str.ofString "law") (lawScope w) L fa ccd) (Str.ofString "j") (forBody (stAt (forBody (stAt (lawBody w) 7)) 10)) Q' E it s₂) E ⟨h, g, d, tk, o⟩ := by
  refine loop_range (L4J m news) rfl R (small_one (by omega) (by omega) (by omega) (by omega)) (rangeSize_nat _ _) F N ?_ ?_ ?_
  · exact ⟨Same.refl, sub_refl⟩
  · intro i t m₁ nx h₂ tk₂ own hi2 hJ hown F9 N9
    obtain ⟨sm, hsb⟩ := hJ
    have hsub : ∀ q ∈ nx, q ∈ own ++ nx := fun q hq => List.mem_append_right _ hq
    have hlt0 : i < rvs.length := by omega
    have hlt1 : i + 1 < rvs.length := by omega
    have hl0 : i < rs.length := by rw [← hal.1]; exact hlt0
    have hl1 : i + 1 < rs.length := by rw [← hal.1]; exact hlt1
    have g0 : rvs[i]? = some rvs[i] := by simp [hlt0]
    have g1 : rvs[i + 1]? = some rvs[i + 1] := by simp [hlt1]
    obtain ⟨a0, c1, c2, c3, c4, cn, ea, hb0⟩ := (hal.2 i _ rs[i] g0 (by simp [hl0])).mono (fun q hq => hsub q (hsb q hq))
    obtain ⟨a1, d1, d2, d3, d4, dn, eb, hb1⟩ := (hal.2 (i + 1) _ rs[i + 1] g1 (by simp [hl1])).mono (fun q hq => hsub q (hsb q hq))
    rw [ea] at g0
    rw [eb] at g1
    have l1 := sm "rows" (by simp)
    rw [j1] at l1
    refine l4_turn B F9 X N9 T hd hu hL hi hlen (i := 1 + (i : Nat)) (rwA := rwA) (a0 := a0) (a1 := a1) (by omega) (by omega) (by (first | with_reducible exact look_here | with_reducible assumption | (simp only [ofString_eq, mapOf, String.reduceEq, ↓reduceIte] <;> first | rfl | with_reducible assumption))) (by (first | with_reducible exact look_here | with_reducible assumption | (simp only [ofString_eq, mapOf, String.reduceEq, ↓reduceIte] <;> first | rfl | with_reducible assumption))) (hsub _ (hsb _ k1)) (by rw [show (1 + (i : Int) - 1).toNat = i by omega]; exact g0) (by rw [show (1 + (i : Int)).toNat = i + 1 by omega]; exact g1) hb0 hb1
      (ap_cmp (hok.ne _ (List.getElem_mem hl0)) (hok.ne _ (List.getElem_mem hl1)) (List.pairwise_iff_getElem.mp hok.ap i (i + 1) hl0 hl1 (by omega))) ?_
    intro h' tk' F' N'
    show TurnEnd _ _ _ _ _ _ _ _ _
    exact TurnEnd.intro F' N' (fun q hq => List.mem_append_left _ hq) (fun B9 hB9 => ⟨sm.set (by simp), fun q hq => mem_tlf_old (hsub q (hsb q hq)) (hB9 q hq)⟩)
  · intro m₁ nx h₂ tk₂ hJ F9 N9
    exact hcont _ _ _ _ F9 N9 hJ.same hJ.sub
end Mine

-- C17
set_option maxRecDepth 100000
namespace Mine
open PySem PySem.W PyProof.Rows PySem.Spec PySem.Calls
local macro_rules | `(tactic| walk_at "never 0") => `(tactic| fail "never")
-- the walk's own lines: each step's token and heap named anew
local macro_rules | `(tactic| walk_at "binaryOp Add int int") => `(tactic| (with_reducible refine add_T ?_; intro _ _))
local macro_rules | `(tactic| walk_at "binaryOp Sub int int") => `(tactic| (with_reducible refine sub_T ?_; intro _ _))
local macro_rules | `(tactic| walk_at "binaryOp BitAnd int int") => `(tactic| (with_reducible refine and_T ?_; intro _ _))
local macro_rules | `(tactic| walk_at "binaryOp BitXor int int") => `(tactic| (with_reducible refine xor_T ?_; intro _ _))
local macro_rules | `(tactic| walk_at "inplaceOp Add int int") => `(tactic| (with_reducible refine iadd_T ?_; intro _ _))
local macro_rules | `(tactic| walk_at "inplaceOp Sub int int") => `(tactic| (with_reducible refine isub_T ?_; intro _ _))
local macro_rules | `(tactic| walk_at "inplaceOp BitXor int int") => `(tactic| (with_reducible refine ixor_T ?_; intro _ _))
local macro_rules | `(tactic| walk_at "binaryOp RShift int int") => `(tactic| ((with_reducible refine rsh_T ?_ ?_); omega; intro _ _))
local macro_rules | `(tactic| walk_at "inplaceOp RShift int int") => `(tactic| ((with_reducible refine irsh_T ?_ ?_); omega; intro _ _))
local macro_rules | `(tactic| walk_at "binaryOp LShift int int") => `(tactic| ((with_reducible refine lsh_T ?_ ?_ ?_); omega; (try simp only [bits_one]); omega; intro _ _))
local macro_rules | `(tactic| walk_at "inplaceOp LShift int int") => `(tactic| ((with_reducible refine ilsh_T ?_ ?_ ?_); omega; (try simp only [bits_one]); omega; intro _ _))
local macro_rules | `(tactic| walk_at "unaryOp USub int") => `(tactic| (with_reducible refine neg_T ?_; intro _ _))
local macro_rules | `(tactic| walk_at "call builtin:int.bit_length") => `(tactic| (with_reducible refine bits_T ?_; intro _ _))
local macro_rules | `(tactic| walk_at "eval Constant int") => `(tactic| (with_reducible refine const_T ?_; intro _ _))
local macro_rules | `(tactic| walk_at "storeName") => `(tactic| (k_here; k_dflt (refine' store_T ?F ?N ?_ ?a ?b; (case F => k_asm); (case N => k_asm); (case a => rfl); (case b => rfl); k_whole); intro h' tk' F' N'; (try k_sweep)))
local macro_rules | `(tactic| walk_at "newTuple") => `(tactic| (k_here; k_dflt (refine' tuple_T ?F ?N ?s ?_; (case F => k_asm); (case N => k_asm); (case s => decide); k_whole); intro h' r' F' N'; (try k_sweep)))
local macro_rules | `(tactic| walk_at "assign Tuple") => `(tactic| (k_here; (with_reducible show wpAny _ _ (assign (Expr.Tuple _ _ _) _ (Value.ref _)) _ _ _); k_dflt (refine' unpack_T ?B ?F ?X ?N ?a ?b ?c ?_; (case F => k_asm); (case X => k_asm); (case N => k_asm); (case B => (repeat (first | assumption | with_reducible exact Bears.here | exact finfB _ _ | exact fninfB _ _ | exact fzeroB _ _ | with_reducible refine Bears.cons ?_ | with_reducible refine Bears.app ?_))); (case a => rfl); (case b => rfl); (case c => rfl); k_whole); intro h' F' N'; (try k_sweep)))
local macro_rules | `(tactic| walk_at "ite") => `(tactic| with_reducible first
  | (refine dec_split ?_ ?_ <;> intro _) | (refine bne_split ?_ ?_ <;> intro _) | (refine beq_split ?_ ?_ <;> intro _))
local macro_rules | `(tactic| walk_at "compareOp Eq ref ref") => `(tactic| (k_here; k_dflt (first
  | (refine' eq_T ?B ?C ?F ?X ?N ?u ?_; (case F => k_asm); (case X => k_asm); (case N => k_asm); (case B => (repeat (first | assumption | with_reducible exact Bears.here | exact finfB _ _ | exact fninfB _ _ | exact fzeroB _ _ | with_reducible refine Bears.cons ?_ | with_reducible refine Bears.app ?_))); (case C => (repeat (first | assumption | with_reducible exact Bears.here | exact finfB _ _ | exact fninfB _ _ | exact fzeroB _ _ | with_reducible refine Bears.cons ?_ | with_reducible refine Bears.app ?_))); (case u => ((try dsimp only [Around.deeper, Around.in1, ktrTop]); omega)); k_whole)
  | (refine' eqL_T ?B ?C ?F ?X ?N ?u ?_; (case F => k_asm); (case X => k_asm); (case N => k_asm); (case B => (repeat (first | assumption | with_reducible exact Bears.here | exact finfB _ _ | exact fninfB _ _ | exact fzeroB _ _ | with_reducible refine Bears.cons ?_ | with_reducible refine Bears.app ?_))); (case C => (repeat (first | assumption | with_reducible exact Bears.here | exact finfB _ _ | exact fninfB _ _ | exact fzeroB _ _ | with_reducible refine Bears.cons ?_ | with_reducible refine Bears.app ?_))); (case u => ((try dsimp only [Around.deeper, Around.in1, ktrTop]); omega)); k_whole))))
local macro_rules | `(tactic| walk_at "compareOp NotEq ref ref") => `(tactic| (k_here; k_dflt (refine' ne_T ?B ?C ?F ?X ?N ?u ?_; (case F => k_asm); (case X => k_asm); (case N => k_asm); (case B => (repeat (first | assumption | with_reducible exact Bears.here | exact finfB _ _ | exact fninfB _ _ | exact fzeroB _ _ | with_reducible refine Bears.cons ?_ | with_reducible refine Bears.app ?_))); (case C => (repeat (first | assumption | with_reducible exact Bears.here | exact finfB _ _ | exact fninfB _ _ | exact fzeroB _ _ | with_reducible refine Bears.cons ?_ | with_reducible refine Bears.app ?_))); (case u => ((try dsimp only [Around.deeper, Around.in1, ktrTop]); omega)); k_whole)))
local macro_rules | `(tactic| walk_at "subscriptTail") => `(tactic| (k_here; (with_reducible show wpAny _ _ (subscriptTail _ _ (Value.ref _) (Value.int _ _)) _ _ _); k_dflt (refine' item_T ?B ?F ?X ?N ?i ?x ?_ ?s; (case F => k_asm); (case X => k_asm); (case N => k_asm); (case B => (repeat (first | assumption | with_reducible exact Bears.here | exact finfB _ _ | exact fninfB _ _ | exact fzeroB _ _ | with_reducible refine Bears.cons ?_ | with_reducible refine Bears.app ?_))); (case i => omega); (case x => rfl); (case s => with_unfolding_all rfl); k_whole)))
local macro_rules | `(tactic| walk_at "binaryOp Pow int int") => `(tactic| ((with_reducible refine pow_T ?_ ?_ ?_ ?_); omega; omega; omega; intro _ _))
local macro_rules | `(tactic| walk_at "ite") => `(tactic| with_reducible first
  | (refine eqb_tt (by assumption) ?_) | (refine eqb_ff (by assumption) ?_) | (refine eqb_ff_e (by (dsimp only; omega)) ?_))
local macro_rules | `(tactic| walk_at "ite") => `(tactic| with_reducible first
  | (refine dec_tt (by omega) ?_) | (refine dec_ff (by omega) ?_) | (refine bne_tt (by omega) ?_) | (refine bne_ff (by omega) ?_) | (refine beq_tt (by omega) ?_) | (refine beq_ff (by omega) ?_) | (refine not_ite ?_))
local macro_rules | `(tactic| walk_at "eval Name") => `(tactic| (k_here; k_dflt (refine' name_G ?F ?X ?T ?e ?_ ?a ?b ?c; (case F => k_asm); (case X => k_asm); (case T => k_asm); (case e => k_is); (case b => kernel_rfl);  (case a => rfl); (case c => kernel_rfl); k_whole)))
local macro_rules | `(tactic| walk_at "eval Name") => `(tactic| (k_here; k_dflt (refine' name_T ?F ?v ?_ ?a ?b ?c; (case F => k_asm); (case v => (first | with_reducible exact look_here | with_reducible assumption | (simp only [ofString_eq, mapOf, String.reduceEq, ↓reduceIte] <;> first | rfl | with_reducible assumption))); (case b => kernel_rfl); (case a => rfl); (case c => kernel_rfl); k_whole)))
local macro_rules | `(tactic| walk_at "loadName") => `(tactic| (k_here; k_dflt (refine' loadn_T ?F ?v ?_ ?a ?b; (case F => k_asm); (case v => (first | with_reducible exact look_here | with_reducible assumption | (simp only [ofString_eq, mapOf, String.reduceEq, ↓reduceIte] <;> first | rfl | with_reducible assumption))); (case b => kernel_rfl); (case a => rfl); k_whole)))
local macro_rules | `(tactic| walk_at "exec If") => `(tactic| with_reducible refine wpAny_If ?_)
local macro_rules | `(tactic| walk_at "exec For Name Name cons nil") => `(tactic| (refine Stop.intro ?_))
local macro_rules | `(tactic| walk_at "exec For Name Call cons nil") => `(tactic| (refine Stop.intro ?_))
local macro_rules | `(tactic| walk_at "exec While Compare cons nil") => `(tactic| (refine Stop.intro ?_))
local macro_rules | `(tactic| walk_at "exec While BoolOp cons nil") => `(tactic| (refine Stop.intro ?_))
local macro_rules | `(tactic| walk_at "call builtin:isinstance") => `(tactic| (k_here; (with_reducible show wpAny _ _ (call (Value.builtin "isinstance") [Value.ref _, Value.type "tuple"]) _ _ _); k_dflt (refine' isi_T ?B ?F ?X ?N ?_; (case F => k_asm); (case X => k_asm); (case N => k_asm); (case B => (repeat (first | assumption | with_reducible exact Bears.here | exact finfB _ _ | exact fninfB _ _ | exact fzeroB _ _ | with_reducible refine Bears.cons ?_ | with_reducible refine Bears.app ?_))); k_whole)))
local macro_rules | `(tactic| walk_at "call builtin:len") => `(tactic| (k_here; (with_reducible show wpAny _ _ (call (Value.builtin "len") [Value.ref _]) _ _ _); k_dflt (refine' len_T ?B ?F ?X ?N ?_; (case F => k_asm); (case X => k_asm); (case N => k_asm); (case B => (repeat (first | assumption | with_reducible exact Bears.here | exact finfB _ _ | exact fninfB _ _ | exact fzeroB _ _ | with_reducible refine Bears.cons ?_ | with_reducible refine Bears.app ?_))); k_whole); intro _ _))
local macro_rules | `(tactic| walk_at "call builtin:divmod") => `(tactic| (k_here; k_dflt (refine' divmod_T ?F ?N ?b ?p ?_; (case F => k_asm); (case N => k_asm); (case b => first | with_reducible assumption | omega); (case p => with_reducible assumption); k_whole); intro h' r' t1' t2' tk' F' N'; (try k_sweep)))
local macro_rules | `(tactic| walk_at "inplaceOp FloorDiv int int") => `(tactic| ((with_reducible refine ifdiv_T ?_ ?_ ?_); decide; decide +kernel; intro _ _))
local macro_rules | `(tactic| walk_at "binaryOp Mod int int") => `(tactic| ((with_reducible refine mod_T ?_ ?_); omega; intro _ _))
local macro_rules | `(tactic| walk_at "subscriptTail") => `(tactic| (k_here; (with_reducible show wpAny _ _ (subscriptTail _ _ (Value.ref _) (Value.int _ _)) _ _ _); k_dflt (refine' litem_T ?M ?N ?a ?b ?x ?_ ?s; (case N => k_asm); (case M => (repeat (first | with_reducible assumption | with_reducible exact List.mem_cons_self | with_reducible refine List.mem_cons_of_mem _ ?_ | with_reducible refine List.mem_append_left _ ?_ | (refine Kept.oth (by with_reducible assumption) _ ?_ ?_; rotate_left; with_reducible assumption)))); (case a => omega); (case b => omega); (case x => with_reducible assumption); (case s => with_unfolding_all rfl); k_whole)))
local macro_rules | `(tactic| walk_at "subscriptTail") => `(tactic| (k_here; (with_reducible show wpAny _ _ (subscriptTail _ _ (Value.ref _) (Value.int (-1) _)) _ _ _); k_dflt (refine' litemN_T ?M ?N ?a ?b ?x ?_ ?s; (case N => k_asm); (case M => (repeat (first | with_reducible assumption | with_reducible exact List.mem_cons_self | with_reducible refine List.mem_cons_of_mem _ ?_ | with_reducible refine List.mem_append_left _ ?_ | (refine Kept.oth (by with_reducible assumption) _ ?_ ?_; rotate_left; with_reducible assumption)))); (case a => rfl); (case b => omega); (case x => with_reducible assumption); (case s => with_unfolding_all rfl); k_whole)))
local macro_rules | `(tactic| walk_at "truthy ref") => `(tactic| (k_here; k_dflt (refine' ltruthy_T ?M ?N ?z ?_; (case N => k_asm); (case M => (repeat (first | with_reducible assumption | with_reducible exact List.mem_cons_self | with_reducible refine List.mem_cons_of_mem _ ?_ | with_reducible refine List.mem_append_left _ ?_ | (refine Kept.oth (by with_reducible assumption) _ ?_ ?_; rotate_left; with_reducible assumption)))); (case z => first | omega | (simp only [List.length_append, List.length_cons, List.length_nil]; omega)); k_whole); intro _))
local macro_rules | `(tactic| walk_at "call builtin:len") => `(tactic| (k_here; (with_reducible show wpAny _ _ (call (Value.builtin "len") [Value.ref _]) _ _ _); k_dflt (refine' llen_T ?M ?N ?z ?_; (case N => k_asm); (case M => (repeat (first | with_reducible assumption | with_reducible exact List.mem_cons_self | with_reducible refine List.mem_cons_of_mem _ ?_ | with_reducible refine List.mem_append_left _ ?_ | (refine Kept.oth (by with_reducible assumption) _ ?_ ?_; rotate_left; with_reducible assumption)))); (case z => first | omega | (simp only [List.length_append, List.length_cons, List.length_nil]; omega)); k_whole); intro _ _))
local macro_rules | `(tactic| walk_at "call builtin:list.append") => `(tactic| (k_here; (with_reducible show wpAny _ _ (call (Value.builtin _) [Value.ref _, _]) _ _ _); k_dflt (refine' append_T (w := _) ?M ?F ?N ?z ?_; (case F => k_asm); (case N => k_asm); (case M => (repeat (first | with_reducible assumption | with_reducible exact List.mem_cons_self | with_reducible refine List.mem_cons_of_mem _ ?_ | with_reducible refine List.mem_append_left _ ?_ | (refine Kept.oth (by with_reducible assumption) _ ?_ ?_; rotate_left; with_reducible assumption)))); (case z => first | omega | (simp only [List.length_append, List.length_cons, List.length_nil]; omega))); intro h' nw' F' N' hin' hk'; (try k_sweep)))
local macro_rules | `(tactic| walk_at "call type:list") => `(tactic| (k_here; (with_reducible show wpAny _ _ (call (Value.type _) [Value.ref _]) _ _ _); k_dflt (refine' lcopy_T ?M ?F ?N ?z ?_; (case F => k_asm); (case N => k_asm); (case M => (repeat (first | with_reducible assumption | with_reducible exact List.mem_cons_self | with_reducible refine List.mem_cons_of_mem _ ?_ | with_reducible refine List.mem_append_left _ ?_ | (refine Kept.oth (by with_reducible assumption) _ ?_ ?_; rotate_left; with_reducible assumption)))); (case z => first | omega | (simp only [List.length_append, List.length_cons, List.length_nil]; omega)); k_whole); intro h' D' c' F' N' hne'; (try k_sweep)))
local macro_rules | `(tactic| walk_at "newList") => `(tactic| (k_here; k_dflt (refine' newlist_T ?F ?N ?_; (case F => k_asm); (case N => k_asm); k_whole); intro h' D' F' N' hne'; (try k_sweep)))
local macro_rules | `(tactic| walk_at "subscriptTail") => `(tactic| (k_here; (with_reducible show wpAny _ _ (subscriptTail _ _ (Value.ref _) (Value.ref _)) _ _ _); k_dflt (with_unfolding_all refine' slice_T ?M ?F ?N ?a ?z ?_ ?s ?t; (case F => k_asm); (case N => k_asm); (case M => (repeat (first | with_reducible assumption | with_reducible exact List.mem_cons_self | with_reducible refine List.mem_cons_of_mem _ ?_ | with_reducible refine List.mem_append_left _ ?_ | (refine Kept.oth (by with_reducible assumption) _ ?_ ?_; rotate_left; with_reducible assumption)))); (case a => omega); (case z => first | omega | (simp only [List.length_append, List.length_cons, List.length_nil]; omega)); (case s => with_unfolding_all rfl); (case t => intro _; with_unfolding_all rfl); k_whole); intro h' D' F' N' hne'; (try k_sweep)))
local macro_rules | `(tactic| walk_at "call ref") => `(tactic| (k_here; (with_reducible show wpAny _ _ (call (Value.ref 121) _) _ _ _); k_dflt (refine' DrawGives.use (g_draw _ _ _ _ _ _ _ ?hi ?hl ?i0 ?i1 ?n0 ?n1) ?hL ?B ?F ?X ?N ?T ?hk ?hd ?hu ?_; (case hL => k_asm); (case hi => first | k_asm | exact Hid.un (by with_reducible assumption)); (case hl => with_reducible assumption); (case i0 => omega); (case i1 => omega); (case n0 => omega); (case n1 => omega); (case B => k_asm); (case F => k_asm); (case X => k_asm); (case N => k_asm); (case T => k_asm); (case hk => rfl); (case hd => ((try dsimp only [Around.deeper, Around.in1, ktrTop]); omega)); (case hu => ((try dsimp only [Around.deeper, Around.in1, ktrTop]); omega)); k_whole); intro k' t' h' tk' F' N' hk1' hk2'; (try dsimp only); (try k_sweep)))
local macro_rules | `(tactic| walk_at "getMethod ref") => `(tactic| (k_here; (with_reducible show wpAny _ _ (getMethod (Value.ref _) (Str.ofString "append") _) _ _ _); k_dflt (refine' methA_T ?M ?N ?_; (case N => k_asm); (case M => (repeat (first | with_reducible assumption | with_reducible exact List.mem_cons_self | with_reducible refine List.mem_cons_of_mem _ ?_ | with_reducible refine List.mem_append_left _ ?_ | (refine Kept.oth (by with_reducible assumption) _ ?_ ?_; rotate_left; with_reducible assumption)))); k_whole)))
local macro_rules | `(tactic| walk_at "binaryOp Mult int int") => `(tactic| ((with_reducible refine mul_T ?_ ?_); intro _ _; rotate_left; first | exact IntMulOk.of_left (by decide) | exact mulOk_small (by omega) (by omega)))
local macro_rules | `(tactic| walk_at "binaryOp Mod int int") => `(tactic| ((with_reducible refine modP_T ?_ ?_); (first | omega | with_reducible assumption); intro r' _ _ hr' hr1' hr2'))

local macro_rules | `(tactic| walk_at "call type:range") => `(tactic| (k_here; (with_reducible show wpAny _ _ (call (Value.type "range") [Value.int _ _]) _ _ _); k_dflt (refine' range1_T ?F ?N ?_; (case F => k_asm); (case N => k_asm); k_whole); intro h' r' tk' t1' u1' v1' R' F' N'; (try k_sweep)))
local macro_rules | `(tactic| walk_at "call type:range") => `(tactic| (k_here; (with_reducible show wpAny _ _ (call (Value.type "range") [Value.int _ _, Value.int _ _]) _ _ _); k_dflt (refine' range2_T ?F ?N ?_; (case F => k_asm); (case N => k_asm); k_whole); intro h' r' tk' t1' u1' v1' R' F' N'; (try k_sweep)))
local macro_rules | `(tactic| walk_at "pyIter ref") => `(tactic| (refine Stop.intro ?_))
local macro_rules | `(tactic| walk_at "assign Tuple") => `(tactic| (k_here; (with_reducible show wpAny _ _ (assign (Expr.Tuple [_, _] _ _) _ (Value.ref _)) _ _ _); k_dflt (refine' unpack2_T ?B ?F ?X ?N ?a ?b ?c ?_; (case F => k_asm); (case X => k_asm); (case N => k_asm); (case B => (repeat (first | with_reducible assumption | with_reducible exact Bears.here | with_reducible refine Bears.cons ?_ | with_reducible refine Bears.app ?_))); (case a => rfl); (case b => rfl); (case c => rfl); k_whole); intro h' F' N'; (try k_sweep)))
local macro_rules | `(tactic| walk_at "compareOp NotEq ref ref") => `(tactic| (k_here; k_dflt (refine' lne_T ?M ?C ?A ?F ?X ?N ?u ?_; (case F => k_asm); (case X => k_asm); (case N => k_asm); (case M => (repeat (first | with_reducible assumption | with_reducible exact List.mem_cons_self | with_reducible refine List.mem_cons_of_mem _ ?_ | with_reducible refine List.mem_append_left _ ?_))); (case C => (repeat (first | with_reducible assumption | with_reducible exact List.mem_cons_self | with_reducible refine List.mem_cons_of_mem _ ?_ | with_reducible refine List.mem_append_left _ ?_))); (case A => (repeat (first | with_reducible assumption | with_reducible apply AllT.app | with_reducible apply AllT.cons))); (case u => ((try dsimp only [Around.deeper, Around.in1, ktrTop]); omega)); k_whole)))
local macro_rules | `(tactic| walk_at "call ref") => `(tactic| (k_here; (with_reducible show wpAny _ _ (call (Value.ref 128) _) _ _ _); k_dflt (refine' MGives.useP (w_form ?ta ?fa ?ra ?rb) ?B ?F ?X ?N ?T ?hk ?hd ?hu ?_; (case B => k_asm); (case F => k_asm); (case X => k_asm); (case N => k_asm); (case T => k_asm); (case hk => rfl); (case hd => ((try dsimp only [Around.deeper, Around.in1, ktrTop]); omega)); (case hu => ((try dsimp only [Around.deeper, Around.in1, ktrTop]); omega)); (case ta => first | with_reducible assumption | exact Tn.of_bears (by (repeat (first | with_reducible assumption | with_reducible exact Bears.here | with_reducible refine Bears.cons ?_ | with_reducible refine Bears.app ?_))) rfl); (case fa => with_reducible assumption); (case ra => with_reducible assumption); (case rb => with_reducible assumption); k_whole); intro r' h' tk' F' N' ho'; refine Exists.elim ho' ?_; clear ho'; intro t' e'; subst e'; (try dsimp only); (try k_sweep)))
local macro_rules | `(tactic| walk_at "call ref") => `(tactic| (k_here; (with_reducible show wpAny _ _ (call (Value.ref 135) _) _ _ _); k_dflt (refine' MGives.useP (w_whole ?ta ?fa ?ra) ?B ?F ?X ?N ?T ?hk ?hd ?hu ?_; (case B => k_asm); (case F => k_asm); (case X => k_asm); (case N => k_asm); (case T => k_asm); (case hk => rfl); (case hd => ((try dsimp only [Around.deeper, Around.in1, ktrTop]); omega)); (case hu => ((try dsimp only [Around.deeper, Around.in1, ktrTop]); omega)); (case ta => first | with_reducible assumption | exact Tn.of_bears (by (repeat (first | with_reducible assumption | with_reducible exact Bears.here | with_reducible refine Bears.cons ?_ | with_reducible refine Bears.app ?_))) rfl); (case fa => with_reducible assumption); (case ra => with_reducible assumption); k_whole); intro r' h' tk' F' N' ho'; refine Exists.elim ho' ?_; clear ho'; intro t' e'; subst e'; (try dsimp only); (try k_sweep)))
local macro_rules | `(tactic| walk_at "call ref") => `(tactic| (k_here; (with_reducible show wpAny _ _ (call (Value.ref 142) _) _ _ _); k_dflt (refine' MGives.use (w_near ?fa ?ra) ?B ?F ?X ?N ?T ?hk ?hd ?hu ?_ ?mo; (case B => k_asm); (case F => k_asm); (case X => k_asm); (case N => k_asm); (case T => k_asm); (case hk => rfl); (case hd => ((try dsimp only [Around.deeper, Around.in1, ktrTop]); omega)); (case hu => ((try dsimp only [Around.deeper, Around.in1, ktrTop]); omega)); (case mo => exact fun _ _ _ hs ht => Tn.mono ht hs); (case fa => with_reducible assumption); (case ra => with_reducible assumption); k_whole); intro r' tl' h' tk' F' N' ho'; (obtain ⟨a', k1', k2', k3', k4', n', e', hB'⟩ := ho'); subst e'; (try dsimp only); (try k_sweep)))
local macro_rules | `(tactic| walk_at "call ref") => `(tactic| (k_here; (with_reducible show wpAny _ _ (call (Value.ref 91) _) _ _ _); k_dflt (refine' MGives.use (w_add ?ta ?tb ?fa ?oa ?ra ?rb) ?B ?F ?X ?N ?T ?hk ?hd ?hu ?_ ?mo; (case B => k_asm); (case F => k_asm); (case X => k_asm); (case N => k_asm); (case T => k_asm); (case hk => rfl); (case hd => ((try dsimp only [Around.deeper, Around.in1, ktrTop]); omega)); (case hu => ((try dsimp only [Around.deeper, Around.in1, ktrTop]); omega)); (case mo => exact fun _ _ _ hs ht => Tn.mono ht hs); (case ta => first | with_reducible assumption | exact Tn.of_bears (by (repeat (first | with_reducible assumption | with_reducible exact Bears.here | with_reducible refine Bears.cons ?_ | with_reducible refine Bears.app ?_))) rfl); (case tb => first | with_reducible assumption | exact Tn.of_bears (by (repeat (first | with_reducible assumption | with_reducible exact Bears.here | with_reducible refine Bears.cons ?_ | with_reducible refine Bears.app ?_))) rfl); (case fa => with_reducible assumption); (case oa => first | exact Or.inl (by with_reducible assumption) | exact Or.inr (by with_reducible assumption)); (case ra => with_reducible assumption); (case rb => with_reducible assumption); k_whole); intro r' tl' h' tk' F' N' ho'; (obtain ⟨a', k1', k2', k3', k4', n', e', hB'⟩ := ho'); subst e'; (try dsimp only); (try k_sweep)))
local macro_rules | `(tactic| walk_at "call ref") => `(tactic| (k_here; (with_reducible show wpAny _ _ (call (Value.ref 107) _) _ _ _); k_dflt (refine' MGives.use (w_sumT ?ma ?aa ?fa ?ra ?rb ?rc) ?B ?F ?X ?N ?T ?hk ?hd ?hu ?_ ?mo; (case B => k_asm); (case F => k_asm); (case X => k_asm); (case N => k_asm); (case T => k_asm); (case hk => rfl); (case hd => ((try dsimp only [Around.deeper, Around.in1, ktrTop]); omega)); (case hu => ((try dsimp only [Around.deeper, Around.in1, ktrTop]); omega)); (case mo => exact fun _ _ _ hs ht => Tn.mono ht hs); (case ma => (repeat (first | with_reducible assumption | with_reducible exact List.mem_cons_self | with_reducible refine List.mem_cons_of_mem _ ?_ | with_reducible refine List.mem_append_left _ ?_))); (case aa => (repeat (first | with_reducible assumption | with_reducible apply AllT.app | with_reducible apply AllT.cons))); (case fa => with_reducible assumption); (case ra => with_reducible assumption); (case rb => with_reducible assumption); (case rc => with_reducible assumption); k_whole); intro r' tl' h' tk' F' N' ho'; (obtain ⟨a', k1', k2', k3', k4', n', e', hB'⟩ := ho'); subst e'; (try dsimp only); (try k_sweep)))
theorem fill_C17 (w : World) : True := by
  refine fill_K w ?_
  k_fill
  intro _ _
  trivial

set_option maxHeartbeats 40000000 in
theorem l2_turn {w : World} {fa : Addr} {p : Program} {loose : List Str} {mean : ExcName → Option Value} {mg mb : Str → Option Value} {dp un : Nat} {gd : Option (List Code)} {ccd : Value} {outer : List Env} {A₀ : Around} {base h₀ : Heap} {L : Addr} {m : Str → Option Value} {news : List (Addr × Obj)} {Q : Flow → Shared → Prop} {E : Value → Shared → Prop} {h : Heap} {g : Array GenState} {d : Drawn} {tk : Nat} {o : OsState} {l : Addr} {vs0 : List Value} {ns : List Int} (B : Below A₀ base outer h₀) (F : Fr h₀ L h m) (X : (Mine.hd.heap_39 w.params).In h₀) (N : News h₀ L h news) (T : Top p loose mean mg mb h₀) (hd : dp + 40 < recursionLimit) (hu : un + 400 < cLine) (hL : base.IsList l vs0.toArray) (hi : IntsAre vs0 ns) (hlen : ns.length ≤ 63) (hE : PassesOwn (model PySem.Challenge.rw_aa5008_01.prog w) (ktrTop dp un gd (Str.ofString "law") (lawScope w) L fa ccd [] outer) (envOf (Str.ofString "law") (lawScope w) L fa ccd) E) {pv low T' u i : Int} {xsA unA rwA va : Addr} {vs uvs rvs : List Value} {us' rs : List Int} {n1 n2 n3 Bd un' : Nat} {s1 s2 s3 s4 ut u1 u2 u3 u4 : Tok} (hf : Fit pv low) (i0 : 0 ≤ i) (i1 : i < 100)
    (j1 : m (Str.ofString "i") = some (.int i s1)) (j2 : m (Str.ofString "p") = some (.int pv s2)) (j3 : m (Str.ofString "low") = some (.int low s3)) (j4 : m (Str.ofString "xs") = some (.ref xsA)) (j5 : m (Str.ofString "units") = some (.ref unA))
    (j6 : m (Str.ofString "total") = some (.int T' s4)) (j7 : m (Str.ofString "rows") = some (.ref rwA))
    (k1 : (xsA, listOf vs.toArray n1) ∈ news) (k2 : (unA, listOf uvs.toArray n2) ∈ news) (k3 : (rwA, listOf rvs.toArray n3) ∈ news) (hlv : vs.length ≤ 10) (hlu : uvs.length ≤ 10)
    (hx : vs[i.toNat]? = some (.ref va)) (Bx : Bears w news va (tobj (fm low u) u1 u2 u3 u4 un')) (hux : uvs[i.toNat]? = some (.int u ut))
    (hal : AllT w news low (vs.take i.toNat) us') (hT : us'.sum = T') (bus : ∀ z ∈ us', z.natAbs < 2 ^ 280) (hlus : us'.length ≤ 20)
    (hr : AllT w news low rvs rs) (ok : RowOk pv.toNat rs) (hlr : rs.length ≤ 5) (hBd : Bd ≤ 234) (bu : u.natAbs ≤ 2 ^ Bd) (brs : ∀ r ∈ rs, r.natAbs ≤ 2 ^ Bd) (ru : Rep pv.toNat u) (bT : T'.natAbs < 2 ^ 290)
    (hQ : ∀ h' tk' m' nf rwA' rvs' n' tt, Fr h₀ L h' m' → News h₀ L h' nf → Same ["q", "total", "so", "once", "kept", "y", "s", "e", "rows", "j"] m m' → (∀ q ∈ news, q ∈ nf) → m' (Str.ofString "total") = some (.int (T' + u) tt) → m' (Str.ofString "rows") = some (.ref rwA') →
      (rwA', listOf rvs'.toArray n') ∈ nf → AllT w nf low rvs' (grow pv.toNat u rs) → Q .next ⟨h', g, d, tk', o⟩) :
    wpAny (model PySem.Challenge.rw_aa5008_01.prog w) (ktrTop dp un gd (Str.ofString "law") (lawScope w) L fa ccd [] outer) (execs (forBody (stAt (lawBody w) 7)) (envOf (Str.ofString "law") (lawScope w) L fa ccd)) Q E ⟨h, g, d, tk, o⟩ := by
  have cu : u.natAbs < 2 ^ 290 := Nat.lt_of_le_of_lt bu (Nat.pow_lt_pow_right (by decide) (by omega))
  have cu' : u.natAbs < 2 ^ 300 := nat_small cu (by omega)
  have cT : T'.natAbs < 2 ^ 300 := nat_small bT (by omega)
  have cTu : (T' + u).natAbs < 2 ^ 300 := nat_small (add_small bT cu) (by omega)
  have e0 : fm low (RN pv.toNat (T' + u)) = fm low (RN pv.toNat (T' + u)) := rfl
  have e1 : fm low (RN pv.toNat (u + T')) = fm low (RN pv.toNat (T' + u)) := by rw [Int.add_comm]
  with_unfolding_all (conv in (execs _ _) => arg 1; whnf)
  show wpAny _ _ _ _ _ _
  (try k_fold)
  k_steps
  unfold Stop
  rename Fr _ _ _ _ => F9
  rename News _ _ _ _ => N9
  rename ∀ q : Addr × Obj, q ∈ _ → q.fst ≠ _ => hn9
  (with_unfolding_all refine' For_invVF F9 ?k1 ?k2 ?_ ?_ hE; (case k1 => exact rfl); (case k2 => exact rfl); rotate_left; exact fun _ => rfl)
  k_steps
  unfold Stop
  with_unfolding_all refine law_L3 (Q := Q) B (by k_asm) X N9 T hd hu hL hi hlen hf (Bd := Bd) (by (repeat (first | with_reducible assumption | with_reducible exact List.mem_cons_self | with_reducible refine List.mem_cons_of_mem _ ?_ | with_reducible refine List.mem_append_left _ ?_))) (by (repeat (first | with_reducible assumption | with_reducible apply AllT.app | with_reducible apply AllT.cons))) List.mem_cons_self (hn9 (rwA, listOf rvs.toArray n3) (by (repeat (first | with_reducible assumption | with_reducible exact List.mem_cons_self | with_reducible refine List.mem_cons_of_mem _ ?_ | with_reducible refine List.mem_append_left _ ?_)))) (by (first | with_reducible exact look_here | with_reducible assumption | (simp only [ofString_eq, mapOf, String.reduceEq, ↓reduceIte] <;> first | rfl | with_reducible assumption))) (by (first | with_reducible exact look_here | with_reducible assumption | (simp only [ofString_eq, mapOf, String.reduceEq, ↓reduceIte] <;> first | rfl | with_reducible assumption))) (by (first | with_reducible exact look_here | with_reducible assumption | (simp only [ofString_eq, mapOf, String.reduceEq, ↓reduceIte] <;> first | rfl | with_reducible assumption))) (by (first | with_reducible exact look_here | with_reducible assumption | (simp only [ofString_eq, mapOf, String.reduceEq, ↓reduceIte] <;> first | rfl | with_reducible assumption))) (Tn.of_bears (by (repeat (first | with_reducible assumption | with_reducible exact Bears.here | with_reducible refine Bears.cons ?_ | with_reducible refine Bears.app ?_))) rfl) ru ok.rep (by omega) bu brs hlr ?_
  intro h' tk' m' nf qa' qv ks kvs kn F7 N7 sm kp eq tq lk alk llk eg
  have hsubn : ∀ q ∈ news, q ∈ nf := fun q hq => kp.oth q (by (repeat (first | with_reducible assumption | with_reducible exact List.mem_cons_self | with_reducible refine List.mem_cons_of_mem _ ?_ | with_reducible refine List.mem_append_left _ ?_))) (hn9 q (by (repeat (first | with_reducible assumption | with_reducible exact List.mem_cons_self | with_reducible refine List.mem_cons_of_mem _ ?_ | with_reducible refine List.mem_append_left _ ?_))))
  have l5 := (sm "kept" (by simp)).trans (by (first | with_reducible exact look_here | with_reducible assumption | (simp only [ofString_eq, mapOf, String.reduceEq, ↓reduceIte] <;> first | rfl | with_reducible assumption)))
  have l6 := (sm "total" (by simp)).trans (by (first | with_reducible exact look_here | with_reducible assumption | (simp only [ofString_eq, mapOf, String.reduceEq, ↓reduceIte] <;> first | rfl | with_reducible assumption)))
  have hS : Same ["q", "total", "so", "once", "kept", "y", "s", "e", "rows", "j"] m m' := by
    refine Same.trans ?_ (sm.wide (by simp))
    repeat (first | exact Same.refl | refine Same.set ?_ (by simp))
  have zq := (fm_is low qv).v0
  obtain ⟨qa2, c1, c2, c3, c4, cn, er, bq⟩ := tq
  cases er
  have hlk : kvs.length ≤ 5 := by rw [alk.1]; omega
  show wpAny _ _ _ _ _ _
  (try k_fold)
  have hok : RowOk pv.toNat (grow pv.toNat u rs) := grow_ok (by have := hf.p0; omega) ru ok
  k_steps
  · unfold Stop
    rename Kept w _ nf _ => K9
    rename Fr _ _ _ _ => F6
    have hz : qv ≠ 0 := fun h9 => absurd (zq.mpr h9) (by with_reducible assumption)
    rw [if_neg hz] at eg
    have halF := (K9.all alk).push (K9.tn _ _ (Tn.of_bears bq rfl))
    rw [eg] at halF
    have hsub2 := fun q (hq : q ∈ news) => K9.oth q (hsubn q hq) (hn9 q (by (repeat (first | with_reducible assumption | with_reducible exact List.mem_cons_self | with_reducible refine List.mem_cons_of_mem _ ?_ | with_reducible refine List.mem_append_left _ ?_))))
    (with_unfolding_all refine' For_invVF F6 ?k1 ?k2 ?_ ?_ hE; (case k1 => exact rfl); (case k2 => exact rfl); rotate_left; exact fun _ => rfl)
    k_steps
    unfold Stop
    rename IsRange _ _ _ _ _ _ _ _ => R9
    with_unfolding_all refine law_L4 (Q := Q) (pv := pv) B (by k_asm) X (by k_asm) T hd hu hL hi hlen R9 rfl (by first | omega | (simp; omega)) (by (first | with_reducible exact look_here | with_reducible assumption | (simp only [ofString_eq, mapOf, String.reduceEq, ↓reduceIte] <;> first | rfl | with_reducible assumption))) (by with_reducible assumption) halF hok ?_
    intro h5 tk5 m5 nf5 F5 N5 sm5 sb5
    (try show wpAny _ _ _ _ _ _)
    (try k_fold)
    k_steps
    exact hQ _ _ _ _ _ _ _ _ F5 N5 (hS.trans ((Same.refl.set (by simp)).trans (sm5.wide (by simp)))) (fun q hq => sb5 q (hsub2 q hq)) ((sm5 "total" (by simp)).trans (by (first | with_reducible exact look_here | with_reducible assumption | (simp only [ofString_eq, mapOf, String.reduceEq, ↓reduceIte] <;> first | rfl | with_reducible assumption)))) ((sm5 "rows" (by simp)).trans (by (first | with_reducible exact look_here | with_reducible assumption | (simp only [ofString_eq, mapOf, String.reduceEq, ↓reduceIte] <;> first | rfl | with_reducible assumption)))) (sb5 _ (by with_reducible assumption)) (halF.mono sb5)
  · unfold Stop
    rename Fr _ _ _ _ => F6
    have hz : qv = 0 := zq.mp (by with_reducible assumption)
    rw [if_pos hz, List.append_nil] at eg
    have halF := alk
    rw [eg] at halF
    have hsub2 := hsubn
    (with_unfolding_all refine' For_invVF F6 ?k1 ?k2 ?_ ?_ hE; (case k1 => exact rfl); (case k2 => exact rfl); rotate_left; exact fun _ => rfl)
    k_steps
    unfold Stop
    rename IsRange _ _ _ _ _ _ _ _ => R9
    with_unfolding_all refine law_L4 (Q := Q) (pv := pv) B (by k_asm) X (by k_asm) T hd hu hL hi hlen R9 rfl (by first | omega | (simp; omega)) (by (first | with_reducible exact look_here | with_reducible assumption | (simp only [ofString_eq, mapOf, String.reduceEq, ↓reduceIte] <;> first | rfl | with_reducible assumption))) (by with_reducible assumption) halF hok ?_
    intro h5 tk5 m5 nf5 F5 N5 sm5 sb5
    (try show wpAny _ _ _ _ _ _)
    (try k_fold)
    k_steps
    exact hQ _ _ _ _ _ _ _ _ F5 N5 (hS.trans ((Same.refl.set (by simp)).trans (sm5.wide (by simp)))) (fun q hq => sb5 q (hsub2 q hq)) ((sm5 "total" (by simp)).trans (by (first | with_reducible exact look_here | with_reducible assumption | (simp only [ofString_eq, mapOf, String.reduceEq, ↓reduceIte] <;> first | rfl | with_reducible assumption)))) ((sm5 "rows" (by simp)).trans (by (first | with_reducible exact look_here | with_reducible assumption | (simp only [ofString_eq, mapOf, String.reduceEq, ↓reduceIte] <;> first | rfl | with_reducible assumption)))) (sb5 _ (by with_reducible assumption)) (halF.mono sb5)
end Mine

-- C18
set_option maxRecDepth 100000
namespace Mine
open PySem PySem.W PyProof.Rows PySem.Spec PySem.Calls
local macro_rules | `(tactic| walk_at "never 0") => `(tactic| fail "never")
local macro_rules | `(tactic| walk_at "never 1") => `(tactic| fail "never")
local macro_rules | `(tactic| walk_at "never 2") => `(tactic| fail "never")
local macro_rules | `(tactic| walk_at "never 3") => `(tactic| fail "never")
local macro_rules | `(tactic| walk_at "never 4") => `(tactic| fail "never")
local macro_rules | `(tactic| walk_at "never 5") => `(tactic| fail "never")
local macro_rules | `(tactic| walk_at "never 6") => `(tactic| fail "never")
-- the walk's own lines: each step's token and heap named anew
local macro_rules | `(tactic| walk_at "binaryOp Add int int") => `(tactic| (with_reducible refine add_T ?_; intro _ _))
local macro_rules | `(tactic| walk_at "binaryOp Sub int int") => `(tactic| (with_reducible refine sub_T ?_; intro _ _))
local macro_rules | `(tactic| walk_at "binaryOp BitAnd int int") => `(tactic| (with_reducible refine and_T ?_; intro _ _))
local macro_rules | `(tactic| walk_at "binaryOp BitXor int int") => `(tactic| (with_reducible refine xor_T ?_; intro _ _))
local macro_rules | `(tactic| walk_at "inplaceOp Add int int") => `(tactic| (with_reducible refine iadd_T ?_; intro _ _))
local macro_rules | `(tactic| walk_at "inplaceOp Sub int int") => `(tactic| (with_reducible refine isub_T ?_; intro _ _))
local macro_rules | `(tactic| walk_at "inplaceOp BitXor int int") => `(tactic| (with_reducible refine ixor_T ?_; intro _ _))
local macro_rules | `(tactic| walk_at "binaryOp RShift int int") => `(tactic| ((with_reducible refine rsh_T ?_ ?_); omega; intro _ _))
local macro_rules | `(tactic| walk_at "inplaceOp RShift int int") => `(tactic| ((with_reducible refine irsh_T ?_ ?_); omega; intro _ _))
local macro_rules | `(tactic| walk_at "binaryOp LShift int int") => `(tactic| ((with_reducible refine lsh_T ?_ ?_ ?_); omega; (try simp only [bits_one]); omega; intro _ _))
local macro_rules | `(tactic| walk_at "inplaceOp LShift int int") => `(tactic| ((with_reducible refine ilsh_T ?_ ?_ ?_); omega; (try simp only [bits_one]); omega; intro _ _))
local macro_rules | `(tactic| walk_at "unaryOp USub int") => `(tactic| (with_reducible refine neg_T ?_; intro _ _))
local macro_rules | `(tactic| walk_at "call builtin:int.bit_length") => `(tactic| (with_reducible refine bits_T ?_; intro _ _))
local macro_rules | `(tactic| walk_at "eval Constant int") => `(tactic| (with_reducible refine const_T ?_; intro _ _))
local macro_rules | `(tactic| walk_at "storeName") => `(tactic| (k_here; k_dflt (refine' store_T ?F ?N ?_ ?a ?b; (case F => k_asm); (case N => k_asm); (case a => rfl); (case b => rfl); k_whole); intro h' tk' F' N'; (try k_sweep)))
local macro_rules | `(tactic| walk_at "newTuple") => `(tactic| (k_here; k_dflt (refine' tuple_T ?F ?N ?s ?_; (case F => k_asm); (case N => k_asm); (case s => decide); k_whole); intro h' r' F' N'; (try k_sweep)))
local macro_rules | `(tactic| walk_at "assign Tuple") => `(tactic| (k_here; (with_reducible show wpAny _ _ (assign (Expr.Tuple _ _ _) _ (Value.ref _)) _ _ _); k_dflt (refine' unpack_T ?B ?F ?X ?N ?a ?b ?c ?_; (case F => k_asm); (case X => k_asm); (case N => k_asm); (case B => (repeat (first | assumption | with_reducible exact Bears.here | exact finfB _ _ | exact fninfB _ _ | exact fzeroB _ _ | with_reducible refine Bears.cons ?_ | with_reducible refine Bears.app ?_))); (case a => rfl); (case b => rfl); (case c => rfl); k_whole); intro h' F' N'; (try k_sweep)))
local macro_rules | `(tactic| walk_at "ite") => `(tactic| with_reducible first
  | (refine dec_split ?_ ?_ <;> intro _) | (refine bne_split ?_ ?_ <;> intro _) | (refine beq_split ?_ ?_ <;> intro _))
local macro_rules | `(tactic| walk_at "compareOp Eq ref ref") => `(tactic| (k_here; k_dflt (first
  | (refine' eq_T ?B ?C ?F ?X ?N ?u ?_; (case F => k_asm); (case X => k_asm); (case N => k_asm); (case B => (repeat (first | assumption | with_reducible exact Bears.here | exact finfB _ _ | exact fninfB _ _ | exact fzeroB _ _ | with_reducible refine Bears.cons ?_ | with_reducible refine Bears.app ?_))); (case C => (repeat (first | assumption | with_reducible exact Bears.here | exact finfB _ _ | exact fninfB _ _ | exact fzeroB _ _ | with_reducible refine Bears.cons ?_ | with_reducible refine Bears.app ?_))); (case u => ((try dsimp only [Around.deeper, Around.in1, ktrTop]); omega)); k_whole)
  | (refine' eqL_T ?B ?C ?F ?X ?N ?u ?_; (case F => k_asm); (case X => k_asm); (case N => k_asm); (case B => (repeat (first | assumption | with_reducible exact Bears.here | exact finfB _ _ | exact fninfB _ _ | exact fzeroB _ _ | with_reducible refine Bears.cons ?_ | with_reducible refine Bears.app ?_))); (case C => (repeat (first | assumption | with_reducible exact Bears.here | exact finfB _ _ | exact fninfB _ _ | exact fzeroB _ _ | with_reducible refine Bears.cons ?_ | with_reducible refine Bears.app ?_))); (case u => ((try dsimp only [Around.deeper, Around.in1, ktrTop]); omega)); k_whole))))
local macro_rules | `(tactic| walk_at "compareOp NotEq ref ref") => `(tactic| (k_here; k_dflt (refine' ne_T ?B ?C ?F ?X ?N ?u ?_; (case F => k_asm); (case X => k_asm); (case N => k_asm); (case B => (repeat (first | assumption | with_reducible exact Bears.here | exact finfB _ _ | exact fninfB _ _ | exact fzeroB _ _ | with_reducible refine Bears.cons ?_ | with_reducible refine Bears.app ?_))); (case C => (repeat (first | assumption | with_reducible exact Bears.here | exact finfB _ _ | exact fninfB _ _ | exact fzeroB _ _ | with_reducible refine Bears.cons ?_ | with_reducible refine Bears.app ?_))); (case u => ((try dsimp only [Around.deeper, Around.in1, ktrTop]); omega)); k_whole)))
local macro_rules | `(tactic| walk_at "subscriptTail") => `(tactic| (k_here; (with_reducible show wpAny _ _ (subscriptTail _ _ (Value.ref _) (Value.int _ _)) _ _ _); k_dflt (refine' item_T ?B ?F ?X ?N ?i ?x ?_ ?s; (case F => k_asm); (case X => k_asm); (case N => k_asm); (case B => (repeat (first | assumption | with_reducible exact Bears.here | exact finfB _ _ | exact fninfB _ _ | exact fzeroB _ _ | with_reducible refine Bears.cons ?_ | with_reducible refine Bears.app ?_))); (case i => omega); (case x => rfl); (case s => with_unfolding_all rfl); k_whole)))
local macro_rules | `(tactic| walk_at "binaryOp Pow int int") => `(tactic| ((with_reducible refine pow_T ?_ ?_ ?_ ?_); omega; omega; omega; intro _ _))
local macro_rules | `(tactic| walk_at "ite") => `(tactic| with_reducible first
  | (refine eqb_tt (by assumption) ?_) | (refine eqb_ff (by assumption) ?_) | (refine eqb_ff_e (by (dsimp only; omega)) ?_))
local macro_rules | `(tactic| walk_at "ite") => `(tactic| with_reducible first
  | (refine dec_tt (by omega) ?_) | (refine dec_ff (by omega) ?_) | (refine bne_tt (by omega) ?_) | (refine bne_ff (by omega) ?_) | (refine beq_tt (by omega) ?_) | (refine beq_ff (by omega) ?_) | (refine not_ite ?_))
local macro_rules | `(tactic| walk_at "eval Name") => `(tactic| (k_here; k_dflt (refine' name_G ?F ?X ?T ?e ?_ ?a ?b ?c; (case F => k_asm); (case X => k_asm); (case T => k_asm); (case e => k_is); (case b => kernel_rfl);  (case a => rfl); (case c => kernel_rfl); k_whole)))
local macro_rules | `(tactic| walk_at "eval Name") => `(tactic| (k_here; k_dflt (refine' name_T ?F ?v ?_ ?a ?b ?c; (case F => k_asm); (case v => (first | with_reducible exact look_here | with_reducible assumption | (simp only [ofString_eq, mapOf, String.reduceEq, ↓reduceIte] <;> first | rfl | with_reducible assumption))); (case b => kernel_rfl); (case a => rfl); (case c => kernel_rfl); k_whole)))
local macro_rules | `(tactic| walk_at "loadName") => `(tactic| (k_here; k_dflt (refine' loadn_T ?F ?v ?_ ?a ?b; (case F => k_asm); (case v => (first | with_reducible exact look_here | with_reducible assumption | (simp only [ofString_eq, mapOf, String.reduceEq, ↓reduceIte] <;> first | rfl | with_reducible assumption))); (case b => kernel_rfl); (case a => rfl); k_whole)))
local macro_rules | `(tactic| walk_at "exec If") => `(tactic| with_reducible refine wpAny_If ?_)
local macro_rules | `(tactic| walk_at "exec For Name Name cons nil") => `(tactic| (refine Stop.intro ?_))
local macro_rules | `(tactic| walk_at "exec For Name Call cons nil") => `(tactic| (refine Stop.intro ?_))
local macro_rules | `(tactic| walk_at "exec While Compare cons nil") => `(tactic| (refine Stop.intro ?_))
local macro_rules | `(tactic| walk_at "exec While BoolOp cons nil") => `(tactic| (refine Stop.intro ?_))
local macro_rules | `(tactic| walk_at "call builtin:isinstance") => `(tactic| (k_here; (with_reducible show wpAny _ _ (call (Value.builtin "isinstance") [Value.ref _, Value.type "tuple"]) _ _ _); k_dflt (refine' isi_T ?B ?F ?X ?N ?_; (case F => k_asm); (case X => k_asm); (case N => k_asm); (case B => (repeat (first | assumption | with_reducible exact Bears.here | exact finfB _ _ | exact fninfB _ _ | exact fzeroB _ _ | with_reducible refine Bears.cons ?_ | with_reducible refine Bears.app ?_))); k_whole)))
local macro_rules | `(tactic| walk_at "call builtin:len") => `(tactic| (k_here; (with_reducible show wpAny _ _ (call (Value.builtin "len") [Value.ref _]) _ _ _); k_dflt (refine' len_T ?B ?F ?X ?N ?_; (case F => k_asm); (case X => k_asm); (case N => k_asm); (case B => (repeat (first | assumption | with_reducible exact Bears.here | exact finfB _ _ | exact fninfB _ _ | exact fzeroB _ _ | with_reducible refine Bears.cons ?_ | with_reducible refine Bears.app ?_))); k_whole); intro _ _))
local macro_rules | `(tactic| walk_at "call builtin:divmod") => `(tactic| (k_here; k_dflt (refine' divmod_T ?F ?N ?b ?p ?_; (case F => k_asm); (case N => k_asm); (case b => first | with_reducible assumption | omega); (case p => with_reducible assumption); k_whole); intro h' r' t1' t2' tk' F' N'; (try k_sweep)))
local macro_rules | `(tactic| walk_at "inplaceOp FloorDiv int int") => `(tactic| ((with_reducible refine ifdiv_T ?_ ?_ ?_); decide; decide +kernel; intro _ _))
local macro_rules | `(tactic| walk_at "binaryOp Mod int int") => `(tactic| ((with_reducible refine mod_T ?_ ?_); omega; intro _ _))
local macro_rules | `(tactic| walk_at "subscriptTail") => `(tactic| (k_here; (with_reducible show wpAny _ _ (subscriptTail _ _ (Value.ref _) (Value.int _ _)) _ _ _); k_dflt (refine' litem_T ?M ?N ?a ?b ?x ?_ ?s; (case N => k_asm); (case M => (repeat (first | with_reducible assumption | with_reducible exact List.mem_cons_self | with_reducible refine List.mem_cons_of_mem _ ?_ | with_reducible refine List.mem_append_left _ ?_ | (refine Kept.oth (by with_reducible assumption) _ ?_ ?_; rotate_left; with_reducible assumption)))); (case a => omega); (case b => omega); (case x => with_reducible assumption); (case s => with_unfolding_all rfl); k_whole)))
local macro_rules | `(tactic| walk_at "subscriptTail") => `(tactic| (k_here; (with_reducible show wpAny _ _ (subscriptTail _ _ (Value.ref _) (Value.int (-1) _)) _ _ _); k_dflt (refine' litemN_T ?M ?N ?a ?b ?x ?_ ?s; (case N => k_asm); (case M => (repeat (first | with_reducible assumption | with_reducible exact List.mem_cons_self | with_reducible refine List.mem_cons_of_mem _ ?_ | with_reducible refine List.mem_append_left _ ?_ | (refine Kept.oth (by with_reducible assumption) _ ?_ ?_; rotate_left; with_reducible assumption)))); (case a => rfl); (case b => omega); (case x => with_reducible assumption); (case s => with_unfolding_all rfl); k_whole)))
local macro_rules | `(tactic| walk_at "truthy ref") => `(tactic| (k_here; k_dflt (refine' ltruthy_T ?M ?N ?z ?_; (case N => k_asm); (case M => (repeat (first | with_reducible assumption | with_reducible exact List.mem_cons_self | with_reducible refine List.mem_cons_of_mem _ ?_ | with_reducible refine List.mem_append_left _ ?_ | (refine Kept.oth (by with_reducible assumption) _ ?_ ?_; rotate_left; with_reducible assumption)))); (case z => first | omega | (simp only [List.length_append, List.length_cons, List.length_nil]; omega)); k_whole); intro _))
local macro_rules | `(tactic| walk_at "call builtin:len") => `(tactic| (k_here; (with_reducible show wpAny _ _ (call (Value.builtin "len") [Value.ref _]) _ _ _); k_dflt (refine' llen_T ?M ?N ?z ?_; (case N => k_asm); (case M => (repeat (first | with_reducible assumption | with_reducible exact List.mem_cons_self | with_reducible refine List.mem_cons_of_mem _ ?_ | with_reducible refine List.mem_append_left _ ?_ | (refine Kept.oth (by with_reducible assumption) _ ?_ ?_; rotate_left; with_reducible assumption)))); (case z => first | omega | (simp only [List.length_append, List.length_cons, List.length_nil]; omega)); k_whole); intro _ _))
local macro_rules | `(tactic| walk_at "call builtin:list.append") => `(tactic| (k_here; (with_reducible show wpAny _ _ (call (Value.builtin _) [Value.ref _, _]) _ _ _); k_dflt (refine' append_T (w := _) ?M ?F ?N ?z ?_; (case F => k_asm); (case N => k_asm); (case M => (repeat (first | with_reducible assumption | with_reducible exact List.mem_cons_self | with_reducible refine List.mem_cons_of_mem _ ?_ | with_reducible refine List.mem_append_left _ ?_ | (refine Kept.oth (by with_reducible assumption) _ ?_ ?_; rotate_left; with_reducible assumption)))); (case z => first | omega | (simp only [List.length_append, List.length_cons, List.length_nil]; omega))); intro h' nw' F' N' hin' hk'; (try k_sweep)))
local macro_rules | `(tactic| walk_at "call type:list") => `(tactic| (k_here; (with_reducible show wpAny _ _ (call (Value.type _) [Value.ref _]) _ _ _); k_dflt (refine' lcopy_T ?M ?F ?N ?z ?_; (case F => k_asm); (case N => k_asm); (case M => (repeat (first | with_reducible assumption | with_reducible exact List.mem_cons_self | with_reducible refine List.mem_cons_of_mem _ ?_ | with_reducible refine List.mem_append_left _ ?_ | (refine Kept.oth (by with_reducible assumption) _ ?_ ?_; rotate_left; with_reducible assumption)))); (case z => first | omega | (simp only [List.length_append, List.length_cons, List.length_nil]; omega)); k_whole); intro h' D' c' F' N' hne'; (try k_sweep)))
local macro_rules | `(tactic| walk_at "newList") => `(tactic| (k_here; k_dflt (refine' newlist_T ?F ?N ?_; (case F => k_asm); (case N => k_asm); k_whole); intro h' D' F' N' hne'; (try k_sweep)))
local macro_rules | `(tactic| walk_at "subscriptTail") => `(tactic| (k_here; (with_reducible show wpAny _ _ (subscriptTail _ _ (Value.ref _) (Value.ref _)) _ _ _); k_dflt (with_unfolding_all refine' slice_T ?M ?F ?N ?a ?z ?_ ?s ?t; (case F => k_asm); (case N => k_asm); (case M => (repeat (first | with_reducible assumption | with_reducible exact List.mem_cons_self | with_reducible refine List.mem_cons_of_mem _ ?_ | with_reducible refine List.mem_append_left _ ?_ | (refine Kept.oth (by with_reducible assumption) _ ?_ ?_; rotate_left; with_reducible assumption)))); (case a => omega); (case z => first | omega | (simp only [List.length_append, List.length_cons, List.length_nil]; omega)); (case s => with_unfolding_all rfl); (case t => intro _; with_unfolding_all rfl); k_whole); intro h' D' F' N' hne'; (try k_sweep)))
local macro_rules | `(tactic| walk_at "call ref") => `(tactic| (k_here; (with_reducible show wpAny _ _ (call (Value.ref 121) _) _ _ _); k_dflt (refine' DrawGives.use (g_draw _ _ _ _ _ _ _ ?hi ?hl ?i0 ?i1 ?n0 ?n1) ?hL ?B ?F ?X ?N ?T ?hk ?hd ?hu ?_; (case hL => k_asm); (case hi => first | k_asm | exact Hid.un (by with_reducible assumption)); (case hl => with_reducible assumption); (case i0 => omega); (case i1 => omega); (case n0 => omega); (case n1 => omega); (case B => k_asm); (case F => k_asm); (case X => k_asm); (case N => k_asm); (case T => k_asm); (case hk => rfl); (case hd => ((try dsimp only [Around.deeper, Around.in1, ktrTop]); omega)); (case hu => ((try dsimp only [Around.deeper, Around.in1, ktrTop]); omega)); k_whole); intro k' t' h' tk' F' N' hk1' hk2'; (try dsimp only); (try k_sweep)))
local macro_rules | `(tactic| walk_at "getMethod ref") => `(tactic| (k_here; (with_reducible show wpAny _ _ (getMethod (Value.ref _) (Str.ofString "append") _) _ _ _); k_dflt (refine' methA_T ?M ?N ?_; (case N => k_asm); (case M => (repeat (first | with_reducible assumption | with_reducible exact List.mem_cons_self | with_reducible refine List.mem_cons_of_mem _ ?_ | with_reducible refine List.mem_append_left _ ?_ | (refine Kept.oth (by with_reducible assumption) _ ?_ ?_; rotate_left; with_reducible assumption)))); k_whole)))
local macro_rules | `(tactic| walk_at "binaryOp Mult int int") => `(tactic| ((with_reducible refine mul_T ?_ ?_); intro _ _; rotate_left; first | exact IntMulOk.of_left (by decide) | exact mulOk_small (by omega) (by omega)))
local macro_rules | `(tactic| walk_at "binaryOp Mod int int") => `(tactic| ((with_reducible refine modP_T ?_ ?_); (first | omega | with_reducible assumption); intro r' _ _ hr' hr1' hr2'))

local macro_rules | `(tactic| walk_at "call type:range") => `(tactic| (k_here; (with_reducible show wpAny _ _ (call (Value.type "range") [Value.int _ _]) _ _ _); k_dflt (refine' range1_T ?F ?N ?_; (case F => k_asm); (case N => k_asm); k_whole); intro h' r' tk' t1' u1' v1' R' F' N'; (try k_sweep)))
local macro_rules | `(tactic| walk_at "call type:range") => `(tactic| (k_here; (with_reducible show wpAny _ _ (call (Value.type "range") [Value.int _ _, Value.int _ _]) _ _ _); k_dflt (refine' range2_T ?F ?N ?_; (case F => k_asm); (case N => k_asm); k_whole); intro h' r' tk' t1' u1' v1' R' F' N'; (try k_sweep)))
local macro_rules | `(tactic| walk_at "pyIter ref") => `(tactic| (refine Stop.intro ?_))
local macro_rules | `(tactic| walk_at "assign Tuple") => `(tactic| (k_here; (with_reducible show wpAny _ _ (assign (Expr.Tuple [_, _] _ _) _ (Value.ref _)) _ _ _); k_dflt (refine' unpack2_T ?B ?F ?X ?N ?a ?b ?c ?_; (case F => k_asm); (case X => k_asm); (case N => k_asm); (case B => (repeat (first | with_reducible assumption | with_reducible exact Bears.here | with_reducible refine Bears.cons ?_ | with_reducible refine Bears.app ?_))); (case a => rfl); (case b => rfl); (case c => rfl); k_whole); intro h' F' N'; (try k_sweep)))
local macro_rules | `(tactic| walk_at "compareOp NotEq ref ref") => `(tactic| (k_here; k_dflt (refine' lne_T ?M ?C ?A ?F ?X ?N ?u ?_; (case F => k_asm); (case X => k_asm); (case N => k_asm); (case M => (repeat (first | with_reducible assumption | with_reducible exact List.mem_cons_self | with_reducible refine List.mem_cons_of_mem _ ?_ | with_reducible refine List.mem_append_left _ ?_))); (case C => (repeat (first | with_reducible assumption | with_reducible exact List.mem_cons_self | with_reducible refine List.mem_cons_of_mem _ ?_ | with_reducible refine List.mem_append_left _ ?_))); (case A => (repeat (first | with_reducible assumption | with_reducible apply AllT.app | with_reducible apply AllT.cons))); (case u => ((try dsimp only [Around.deeper, Around.in1, ktrTop]); omega)); k_whole)))
theorem fill_C18 (w : World) : True := by
  refine fill_K w ?_
  k_fill
  intro _ _
  trivial

theorem sum_small {b : Nat} : ∀ (k : Nat) (xs : List Int), xs.length ≤ k → (∀ u ∈ xs, u.natAbs < 2 ^ b) → xs.sum.natAbs < 2 ^ (b + k + 1) := by
  intro k xs
  induction xs generalizing k with
  | nil => intro _ _; exact Nat.two_pow_pos _
  | cons x r ih =>
    intro h1 h3
    rw [List.length_cons] at h1
    obtain ⟨j, rfl⟩ : ∃ j, k = j + 1 := ⟨k - 1, by omega⟩
    have h4 := ih j (by omega) fun u hu => h3 u (by simp [hu])
    have h5 := h3 x (by simp)
    rw [List.sum_cons]
    exact add_small (nat_small h5 (by omega)) h4
theorem AllT.take {w : World} {news : List (Addr × Obj)} {low : Int} {vs : List Value} {us : List Int} (h : AllT w news low vs us) (k : Nat) : AllT w news low (vs.take k) (us.take k) := by
  refine ⟨by rw [List.length_take, List.length_take, h.1], fun i v u h1 h2 => ?_⟩
  rw [List.getElem?_take] at h1 h2
  by_cases hk : i < k
  · rw [if_pos hk] at h1 h2
    exact h.2 i v u h1 h2
  · rw [if_neg hk] at h1
    cases h1
theorem XsAt.to {w : World} {pv low : Int} {xsA unA : Addr} {vs uvs : List Value} {us : List Int} {m m' : Str → Option Value} {nf nf' : List (Addr × Obj)} {ns : List String} (h : XsAt w pv low xsA unA vs uvs us m nf) (hS : Same ns m m') (h1 : "p" ∉ ns) (h2 : "low" ∉ ns) (h3 : "xs" ∉ ns) (h4 : "units" ∉ ns) (hs : ∀ q ∈ nf, q ∈ nf') :
    XsAt w pv low xsA unA vs uvs us m' nf' := by
  obtain ⟨⟨t1, mp⟩, ⟨t2, ml⟩, mx, mu, ⟨n1, lx⟩, ⟨n2, lu⟩, hu, al, good⟩ := h
  exact ⟨⟨t1, (hS _ h1).trans mp⟩, ⟨t2, (hS _ h2).trans ml⟩, (hS _ h3).trans mx, (hS _ h4).trans mu, ⟨n1, hs _ lx⟩, ⟨n2, hs _ lu⟩, hu, al.mono hs, good⟩
theorem XsAt.tl {w : World} {pv low : Int} {xsA unA B : Addr} {vs uvs : List Value} {us : List Int} {m : Str → Option Value} {nf : List (Addr × Obj)} (h : XsAt w pv low xsA unA vs uvs us m nf) : XsAt w pv low xsA unA vs uvs us m (tlf B nf) := by
  obtain ⟨mp, ml, mx, mu, ⟨n1, lx⟩, ⟨n2, lu⟩, hu, al, good⟩ := h
  exact ⟨mp, ml, mx, mu, ⟨n1, mem_tlf lx isTL_list⟩, ⟨n2, mem_tlf lu isTL_list⟩, hu, al.tl, good⟩
/-- the parts, after i numbers -/
structure L2J (w : World) (pv low : Int) (xsA unA gvA : Addr) (vs uvs : List Value) (us : List Int) (i : Nat) (m : Str → Option Value) (nx : List (Addr × Obj)) : Prop where
  xs : XsAt w pv low xsA unA vs uvs us m nx
  gv : m (Str.ofString "given") = some (.ref gvA)
  lg : ∃ n, (gvA, listOf vs.toArray n) ∈ nx
  tot : ∃ t, m (Str.ofString "total") = some (.int (us.take i).sum t)
  rw : ∃ rwA rvs rs n, m (Str.ofString "rows") = some (.ref rwA) ∧ (rwA, listOf rvs.toArray n) ∈ nx ∧ AllT w nx low rvs rs ∧ RowOk pv.toNat rs ∧ rs.sum = (us.take i).sum ∧ rs.length ≤ i ∧ ∀ r ∈ rs, r.natAbs ≤ 2 ^ (200 + 6 * i)
set_option maxHeartbeats 40000000 in
theorem law_L2 {w : World} {fa : Addr} {p : Program} {loose : List Str} {mean : ExcName → Option Value} {mg mb : Str → Option Value} {dp un : Nat} {gd : Option (List Code)} {ccd : Value} {outer : List Env} {A₀ : Around} {base h₀ : Heap} {L : Addr} {m : Str → Option Value} {news : List (Addr × Obj)} {Q : Flow → Shared → Prop} {E : Value → Shared → Prop} {h : Heap} {g : Array GenState} {d : Drawn} {tk : Nat} {o : OsState} {l : Addr} {vs0 : List Value} {ns : List Int} (B : Below A₀ base outer h₀) (F : Fr h₀ L h m) (X : (Mine.hd.heap_39 w.params).In h₀) (N : News h₀ L h news) (T : Top p loose mean mg mb h₀) (hd : dp + 40 < recursionLimit) (hu : un + 400 < cLine) (hL : base.IsList l vs0.toArray) (hi : IntsAre vs0 ns) (hlen : ns.length ≤ 63) (hE : PassesOwn (model PySem.Challenge.rw_aa5008_01.prog w) (ktrTop dp un gd (Str.ofString "law") (lawScope w) L fa ccd [] outer) (envOf (Str.ofString "law") (lawScope w) L fa ccd) E) {Q' : Flow → Shared → Prop} {pv low n : Int} {r xsA unA gvA : Addr} {t1 u1 v1 : Tok} {vs uvs : List Value} {us : List Int} (hf : Fit pv low) (R : IsRange h r 0 n 1 t1 u1 v1) (hn : n = (us.length : Nat)) (h5 : us.length ≤ 5)
    (hj : L2J w pv low xsA unA gvA vs uvs us 0 m news)
    (hcont : ∀ h' tk' m' nf, Fr h₀ L h' m' → News h₀ L h' nf → L2J w pv low xsA unA gvA vs uvs us us.length m' nf → Q' .next ⟨h', g, d, tk', o⟩) :
    wpAny (model PySem.Challenge.rw_aa5008_01.prog w) (ktrTop dp un gd (Str.ofString "law") (lawScope w) L fa ccd [] outer) (pyIter (.ref r))
      (fun it s₂ => LoopAtV PySem.Challenge.rw_aa5008_01.prog w (ktrTop dp un gd (Str.ofString "law") (lawScope w) L fa ccd [] outer) h₀ (envOf (Str.ofString "law") (lawScope w) L fa ccd) (Str.ofString "i") (forBody (stAt (lawBody w) 7)) Q' E it s₂) E ⟨h, g, d, tk, o⟩ := by
  refine loop_range (L2J w pv low xsA unA gvA vs uvs us) rfl R (small_one (by omega) (by omega) (by omega) (by omega)) (rangeSize_nat _ _) F N hj ?_ ?_
  · intro i t m₁ nx h₂ tk₂ own hi2 hJ hown F9 N9
    obtain ⟨x1, gv, ⟨gn, lg⟩, ⟨tt, tot⟩, rwA, rvs, rs, rn', hrw, hrl, hral, hrok, hrsum, hrlen, hrb⟩ := hJ
    have hsub : ∀ q ∈ nx, q ∈ own ++ nx := fun q hq => List.mem_append_right _ hq
    have x2 := x1.lookI (v := .int (0 + (i : Nat)) t) hsub
    obtain ⟨⟨s1, mp⟩, ⟨s2, ml⟩, mx, mu, ⟨n1, lx⟩, ⟨n2, lu⟩, hu2, al, good⟩ := x2
    have hil : i < us.length := by omega
    have hlv : vs.length = us.length := al.1
    have hlw : uvs.length = us.length := hu2.length
    have e1 : vs[i]? = some vs[i] := by simp [hlv, hil]
    have e2 : us[i]? = some us[i] := by simp [hil]
    obtain ⟨va, c1, c2, c3, c4, cn, ev, hb⟩ := al.2 i _ _ e1 e2
    obtain ⟨ut, hut⟩ := hu2.get i _ e2
    rw [ev] at e1
    have hg := good _ (List.getElem_mem hil)
    have hp0 := hf.p0
    have ru : Rep pv.toNat us[i] := rep_iff.mpr (by have := hg.1; omega)
    have bu : us[i].natAbs ≤ 2 ^ (200 + 6 * i) := Nat.le_trans (Nat.le_of_lt hg.2) (pow_le_of (by omega))
    have hsum : (us.take (i + 1)).sum = (us.take i).sum + us[i] := by rw [List.take_add_one, e2]; simp only [Option.toList_some, List.sum_append, List.sum_cons, List.sum_nil, Int.add_zero]
    have bT := sum_small (b := 200) 5 (us.take i) (by rw [List.length_take]; omega) fun z hz => (good z (List.mem_of_mem_take hz)).2
    refine l2_turn B F9 X N9 T hd hu hL hi hlen hE hf (i := 0 + (i : Nat)) (T' := (us.take i).sum) (u := us[i]) (us' := us.take i) (rs := rs) (Bd := 200 + 6 * i) (by omega) (by omega) (by (first | with_reducible exact look_here | with_reducible assumption | (simp only [ofString_eq, mapOf, String.reduceEq, ↓reduceIte] <;> first | rfl | with_reducible assumption))) mp ml mx mu (by (first | with_reducible exact look_here | with_reducible assumption | (simp only [ofString_eq, mapOf, String.reduceEq, ↓reduceIte] <;> first | rfl | with_reducible assumption))) (by (first | with_reducible exact look_here | with_reducible assumption | (simp only [ofString_eq, mapOf, String.reduceEq, ↓reduceIte] <;> first | rfl | with_reducible assumption))) lx lu (hsub _ hrl) (by omega) (by omega)
      (by rw [show (0 + (i : Int)).toNat = i by omega]; exact e1) hb (by rw [show (0 + (i : Int)).toNat = i by omega]; exact hut) (by rw [show (0 + (i : Int)).toNat = i by omega]; exact al.take i) rfl (fun z hz => nat_small (good z (List.mem_of_mem_take hz)).2 (by omega)) (by rw [List.length_take]; omega)
      (hral.mono hsub) hrok (by omega) (by omega) bu hrb ru (nat_small bT (by omega)) ?_
    intro h' tk' m' nf rwA' rvs' n' tt' F' N' sm hs2 htot hrows hlist hal'
    show TurnEnd _ _ _ _ _ _ _ _ _
    refine TurnEnd.intro F' N' (fun q hq => hs2 q (List.mem_append_left _ hq)) (fun B9 hB9 => ⟨?_, ?_, ⟨gn, mem_tlf (hs2 _ (hsub _ lg)) isTL_list⟩, ⟨tt', by rw [hsum]; exact htot⟩, rwA', rvs', grow pv.toNat us[i] rs, n', hrows, mem_tlf hlist isTL_list, hal'.tl, grow_ok (by omega) ru hrok, ?_, ?_, ?_⟩)
    · exact ((x1.lookI (v := .int (0 + (i : Nat)) t) hsub).to sm (by simp) (by simp) (by simp) (by simp) hs2).tl
    · exact (sm "given" (by simp)).trans (by (first | with_reducible exact look_here | with_reducible assumption | (simp only [ofString_eq, mapOf, String.reduceEq, ↓reduceIte] <;> first | rfl | with_reducible assumption)))
    · rw [grow_sum, hrsum, hsum]; omega
    · exact Nat.le_trans grow_len (by omega)
    · intro z hz
      have := grow_bound (B := 200 + 6 * i) (by omega) 0 ru (by simpa using bu) hrb z hz
      exact Nat.le_trans this (pow_le_of (by omega))
  · intro m₁ nx h₂ tk₂ hJ F9 N9
    have e : ((n - 0).toNat) = us.length := by omega
    rw [e] at hJ
    exact hcont _ _ _ _ F9 N9 hJ
set_option maxHeartbeats 40000000 in
theorem law_b {w : World} {fa : Addr} {p : Program} {loose : List Str} {mean : ExcName → Option Value} {mg mb : Str → Option Value} {dp un : Nat} {gd : Option (List Code)} {ccd : Value} {outer : List Env} {A₀ : Around} {base h₀ : Heap} {L : Addr} {m : Str → Option Value} {news : List (Addr × Obj)} {Q : Flow → Shared → Prop} {E : Value → Shared → Prop} {h : Heap} {g : Array GenState} {d : Drawn} {tk : Nat} {o : OsState} {l : Addr} {vs0 : List Value} {ns : List Int} (B : Below A₀ base outer h₀) (F : Fr h₀ L h m) (X : (Mine.hd.heap_39 w.params).In h₀) (N : News h₀ L h news) (T : Top p loose mean mg mb h₀) (hd : dp + 40 < recursionLimit) (hu : un + 400 < cLine) (hL : base.IsList l vs0.toArray) (hi : IntsAre vs0 ns) (hlen : ns.length ≤ 63) (hE : PassesOwn (model PySem.Challenge.rw_aa5008_01.prog w) (ktrTop dp un gd (Str.ofString "law") (lawScope w) L fa ccd [] outer) (envOf (Str.ofString "law") (lawScope w) L fa ccd) E) {pv low : Int} {xsA unA : Addr} {vs uvs : List Value} {us : List Int} (hf : Fit pv low) (x0 : XsAt w pv low xsA unA vs uvs us m news) (h1 : 1 ≤ us.length) (h5 : us.length ≤ 5)
    (hcont : ∀ gvA h' tk' m' nf, Fr h₀ L h' m' → News h₀ L h' nf → L2J w pv low xsA unA gvA vs uvs us us.length m' nf →
      wpAny (model PySem.Challenge.rw_aa5008_01.prog w) (ktrTop dp un gd (Str.ofString "law") (lawScope w) L fa ccd [] outer) (execs ((lawBody w).drop 8) (envOf (Str.ofString "law") (lawScope w) L fa ccd)) Q E ⟨h', g, d, tk', o⟩) :
    wpAny (model PySem.Challenge.rw_aa5008_01.prog w) (ktrTop dp un gd (Str.ofString "law") (lawScope w) L fa ccd [] outer) (execs ((lawBody w).drop 4) (envOf (Str.ofString "law") (lawScope w) L fa ccd)) Q E ⟨h, g, d, tk, o⟩ := by
  have x1 := x0
  obtain ⟨⟨s1, mp⟩, ⟨s2, ml⟩, mx, mu, ⟨n1, lx⟩, ⟨n2, lu⟩, hu2, al, good⟩ := x1
  have hlv : vs.length = us.length := al.1
  with_unfolding_all (conv in (execs _ _) => arg 1; whnf)
  show wpAny _ _ _ _ _ _
  (try k_fold)
  k_steps
  unfold Stop
  rename Fr _ _ _ _ => F9
  rename News _ _ _ _ => N9
  (with_unfolding_all refine' For_invVF F9 ?k1 ?k2 ?_ ?_ hE; (case k1 => exact rfl); (case k2 => exact rfl); rotate_left; exact fun _ => rfl)
  k_steps
  unfold Stop
  rename IsRange _ _ _ _ _ _ _ _ => R9
  with_unfolding_all refine law_L2 (Q := Q) B (by k_asm) X (by k_asm) T hd hu hL hi hlen hE hf R9 (by rw [hlv]) h5 ⟨x0.to (ns := ["given", "rows", "total"]) (((Same.refl.set (by simp)).set (by simp)).set (by simp)) (by simp) (by simp) (by simp) (by simp) (fun q hq => List.mem_cons_of_mem _ (List.mem_cons_of_mem _ hq)), (by (first | with_reducible exact look_here | with_reducible assumption | (simp only [ofString_eq, mapOf, String.reduceEq, ↓reduceIte] <;> first | rfl | with_reducible assumption))), ⟨_, List.mem_cons_of_mem _ List.mem_cons_self⟩, ⟨_, (by (first | with_reducible exact look_here | with_reducible assumption | (simp only [ofString_eq, mapOf, String.reduceEq, ↓reduceIte] <;> first | rfl | with_reducible assumption)))⟩, _, [], [], 0, (by (first | with_reducible exact look_here | with_reducible assumption | (simp only [ofString_eq, mapOf, String.reduceEq, ↓reduceIte] <;> first | rfl | with_reducible assumption))), List.mem_cons_self, AllT.nil, RowOk.nil, by simp, by simp, by simp⟩ ?_
  intro h' tk' m' nf F8 N8 hJ8
  show wpAny _ _ _ _ _ _
  (try k_fold)
  with_unfolding_all exact hcont _ _ _ _ _ F8 N8 hJ8
end Mine

-- C19
set_option maxRecDepth 100000
namespace Mine
open PySem PySem.W PyProof.Rows PySem.Spec PySem.Calls
local macro_rules | `(tactic| walk_at "never 0") => `(tactic| fail "never")
local macro_rules | `(tactic| walk_at "never 1") => `(tactic| fail "never")
local macro_rules | `(tactic| walk_at "never 2") => `(tactic| fail "never")
local macro_rules | `(tactic| walk_at "never 3") => `(tactic| fail "never")
local macro_rules | `(tactic| walk_at "never 4") => `(tactic| fail "never")
local macro_rules | `(tactic| walk_at "never 5") => `(tactic| fail "never")
local macro_rules | `(tactic| walk_at "never 6") => `(tactic| fail "never")
-- the walk's own lines: each step's token and heap named anew
local macro_rules | `(tactic| walk_at "binaryOp Add int int") => `(tactic| (with_reducible refine add_T ?_; intro _ _))
local macro_rules | `(tactic| walk_at "binaryOp Sub int int") => `(tactic| (with_reducible refine sub_T ?_; intro _ _))
local macro_rules | `(tactic| walk_at "binaryOp BitAnd int int") => `(tactic| (with_reducible refine and_T ?_; intro _ _))
local macro_rules | `(tactic| walk_at "binaryOp BitXor int int") => `(tactic| (with_reducible refine xor_T ?_; intro _ _))
local macro_rules | `(tactic| walk_at "inplaceOp Add int int") => `(tactic| (with_reducible refine iadd_T ?_; intro _ _))
local macro_rules | `(tactic| walk_at "inplaceOp Sub int int") => `(tactic| (with_reducible refine isub_T ?_; intro _ _))
local macro_rules | `(tactic| walk_at "inplaceOp BitXor int int") => `(tactic| (with_reducible refine ixor_T ?_; intro _ _))
local macro_rules | `(tactic| walk_at "binaryOp RShift int int") => `(tactic| ((with_reducible refine rsh_T ?_ ?_); omega; intro _ _))
local macro_rules | `(tactic| walk_at "inplaceOp RShift int int") => `(tactic| ((with_reducible refine irsh_T ?_ ?_); omega; intro _ _))
local macro_rules | `(tactic| walk_at "binaryOp LShift int int") => `(tactic| ((with_reducible refine lsh_T ?_ ?_ ?_); omega; (try simp only [bits_one]); omega; intro _ _))
local macro_rules | `(tactic| walk_at "inplaceOp LShift int int") => `(tactic| ((with_reducible refine ilsh_T ?_ ?_ ?_); omega; (try simp only [bits_one]); omega; intro _ _))
local macro_rules | `(tactic| walk_at "unaryOp USub int") => `(tactic| (with_reducible refine neg_T ?_; intro _ _))
local macro_rules | `(tactic| walk_at "call builtin:int.bit_length") => `(tactic| (with_reducible refine bits_T ?_; intro _ _))
local macro_rules | `(tactic| walk_at "eval Constant int") => `(tactic| (with_reducible refine const_T ?_; intro _ _))
local macro_rules | `(tactic| walk_at "storeName") => `(tactic| (k_here; k_dflt (refine' store_T ?F ?N ?_ ?a ?b; (case F => k_asm); (case N => k_asm); (case a => rfl); (case b => rfl); k_whole); intro h' tk' F' N'; (try k_sweep)))
local macro_rules | `(tactic| walk_at "newTuple") => `(tactic| (k_here; k_dflt (refine' tuple_T ?F ?N ?s ?_; (case F => k_asm); (case N => k_asm); (case s => decide); k_whole); intro h' r' F' N'; (try k_sweep)))
local macro_rules | `(tactic| walk_at "assign Tuple") => `(tactic| (k_here; (with_reducible show wpAny _ _ (assign (Expr.Tuple _ _ _) _ (Value.ref _)) _ _ _); k_dflt (refine' unpack_T ?B ?F ?X ?N ?a ?b ?c ?_; (case F => k_asm); (case X => k_asm); (case N => k_asm); (case B => (repeat (first | assumption | with_reducible exact Bears.here | exact finfB _ _ | exact fninfB _ _ | exact fzeroB _ _ | with_reducible refine Bears.cons ?_ | with_reducible refine Bears.app ?_))); (case a => rfl); (case b => rfl); (case c => rfl); k_whole); intro h' F' N'; (try k_sweep)))
local macro_rules | `(tactic| walk_at "ite") => `(tactic| with_reducible first
  | (refine dec_split ?_ ?_ <;> intro _) | (refine bne_split ?_ ?_ <;> intro _) | (refine beq_split ?_ ?_ <;> intro _))
local macro_rules | `(tactic| walk_at "compareOp Eq ref ref") => `(tactic| (k_here; k_dflt (first
  | (refine' eq_T ?B ?C ?F ?X ?N ?u ?_; (case F => k_asm); (case X => k_asm); (case N => k_asm); (case B => (repeat (first | assumption | with_reducible exact Bears.here | exact finfB _ _ | exact fninfB _ _ | exact fzeroB _ _ | with_reducible refine Bears.cons ?_ | with_reducible refine Bears.app ?_))); (case C => (repeat (first | assumption | with_reducible exact Bears.here | exact finfB _ _ | exact fninfB _ _ | exact fzeroB _ _ | with_reducible refine Bears.cons ?_ | with_reducible refine Bears.app ?_))); (case u => ((try dsimp only [Around.deeper, Around.in1, ktrTop]); omega)); k_whole)
  | (refine' eqL_T ?B ?C ?F ?X ?N ?u ?_; (case F => k_asm); (case X => k_asm); (case N => k_asm); (case B => (repeat (first | assumption | with_reducible exact Bears.here | exact finfB _ _ | exact fninfB _ _ | exact fzeroB _ _ | with_reducible refine Bears.cons ?_ | with_reducible refine Bears.app ?_))); (case C => (repeat (first | assumption | with_reducible exact Bears.here | exact finfB _ _ | exact fninfB _ _ | exact fzeroB _ _ | with_reducible refine Bears.cons ?_ | with_reducible refine Bears.app ?_))); (case u => ((try dsimp only [Around.deeper, Around.in1, ktrTop]); omega)); k_whole))))
local macro_rules | `(tactic| walk_at "compareOp NotEq ref ref") => `(tactic| (k_here; k_dflt (refine' ne_T ?B ?C ?F ?X ?N ?u ?_; (case F => k_asm); (case X => k_asm); (case N => k_asm); (case B => (repeat (first | assumption | with_reducible exact Bears.here | exact finfB _ _ | exact fninfB _ _ | exact fzeroB _ _ | with_reducible refine Bears.cons ?_ | with_reducible refine Bears.app ?_))); (case C => (repeat (first | assumption | with_reducible exact Bears.here | exact finfB _ _ | exact fninfB _ _ | exact fzeroB _ _ | with_reducible refine Bears.cons ?_ | with_reducible refine Bears.app ?_))); (case u => ((try dsimp only [Around.deeper, Around.in1, ktrTop]); omega)); k_whole)))
local macro_rules | `(tactic| walk_at "subscriptTail") => `(tactic| (k_here; (with_reducible show wpAny _ _ (subscriptTail _ _ (Value.ref _) (Value.int _ _)) _ _ _); k_dflt (refine' item_T ?B ?F ?X ?N ?i ?x ?_ ?s; (case F => k_asm); (case X => k_asm); (case N => k_asm); (case B => (repeat (first | assumption | with_reducible exact Bears.here | exact finfB _ _ | exact fninfB _ _ | exact fzeroB _ _ | with_reducible refine Bears.cons ?_ | with_reducible refine Bears.app ?_))); (case i => omega); (case x => rfl); (case s => with_unfolding_all rfl); k_whole)))
local macro_rules | `(tactic| walk_at "binaryOp Pow int int") => `(tactic| ((with_reducible refine pow_T ?_ ?_ ?_ ?_); omega; omega; omega; intro _ _))
local macro_rules | `(tactic| walk_at "ite") => `(tactic| with_reducible first
  | (refine eqb_tt (by assumption) ?_) | (refine eqb_ff (by assumption) ?_) | (refine eqb_ff_e (by (dsimp only; omega)) ?_))
local macro_rules | `(tactic| walk_at "ite") => `(tactic| with_reducible first
  | (refine dec_tt (by omega) ?_) | (refine dec_ff (by omega) ?_) | (refine bne_tt (by omega) ?_) | (refine bne_ff (by omega) ?_) | (refine beq_tt (by omega) ?_) | (refine beq_ff (by omega) ?_) | (refine not_ite ?_))
local macro_rules | `(tactic| walk_at "eval Name") => `(tactic| (k_here; k_dflt (refine' name_G ?F ?X ?T ?e ?_ ?a ?b ?c; (case F => k_asm); (case X => k_asm); (case T => k_asm); (case e => k_is); (case b => kernel_rfl);  (case a => rfl); (case c => kernel_rfl); k_whole)))
local macro_rules | `(tactic| walk_at "eval Name") => `(tactic| (k_here; k_dflt (refine' name_T ?F ?v ?_ ?a ?b ?c; (case F => k_asm); (case v => (first | with_reducible exact look_here | with_reducible assumption | (simp only [ofString_eq, mapOf, String.reduceEq, ↓reduceIte] <;> first | rfl | with_reducible assumption))); (case b => kernel_rfl); (case a => rfl); (case c => kernel_rfl); k_whole)))
local macro_rules | `(tactic| walk_at "loadName") => `(tactic| (k_here; k_dflt (refine' loadn_T ?F ?v ?_ ?a ?b; (case F => k_asm); (case v => (first | with_reducible exact look_here | with_reducible assumption | (simp only [ofString_eq, mapOf, String.reduceEq, ↓reduceIte] <;> first | rfl | with_reducible assumption))); (case b => kernel_rfl); (case a => rfl); k_whole)))
local macro_rules | `(tactic| walk_at "exec If") => `(tactic| with_reducible refine wpAny_If ?_)
local macro_rules | `(tactic| walk_at "exec For Name Name cons nil") => `(tactic| (refine Stop.intro ?_))
local macro_rules | `(tactic| walk_at "exec For Name Call cons nil") => `(tactic| (refine Stop.intro ?_))
local macro_rules | `(tactic| walk_at "exec While Compare cons nil") => `(tactic| (refine Stop.intro ?_))
local macro_rules | `(tactic| walk_at "exec While BoolOp cons nil") => `(tactic| (refine Stop.intro ?_))
local macro_rules | `(tactic| walk_at "call builtin:isinstance") => `(tactic| (k_here; (with_reducible show wpAny _ _ (call (Value.builtin "isinstance") [Value.ref _, Value.type "tuple"]) _ _ _); k_dflt (refine' isi_T ?B ?F ?X ?N ?_; (case F => k_asm); (case X => k_asm); (case N => k_asm); (case B => (repeat (first | assumption | with_reducible exact Bears.here | exact finfB _ _ | exact fninfB _ _ | exact fzeroB _ _ | with_reducible refine Bears.cons ?_ | with_reducible refine Bears.app ?_))); k_whole)))
local macro_rules | `(tactic| walk_at "call builtin:len") => `(tactic| (k_here; (with_reducible show wpAny _ _ (call (Value.builtin "len") [Value.ref _]) _ _ _); k_dflt (refine' len_T ?B ?F ?X ?N ?_; (case F => k_asm); (case X => k_asm); (case N => k_asm); (case B => (repeat (first | assumption | with_reducible exact Bears.here | exact finfB _ _ | exact fninfB _ _ | exact fzeroB _ _ | with_reducible refine Bears.cons ?_ | with_reducible refine Bears.app ?_))); k_whole); intro _ _))
local macro_rules | `(tactic| walk_at "call builtin:divmod") => `(tactic| (k_here; k_dflt (refine' divmod_T ?F ?N ?b ?p ?_; (case F => k_asm); (case N => k_asm); (case b => first | with_reducible assumption | omega); (case p => with_reducible assumption); k_whole); intro h' r' t1' t2' tk' F' N'; (try k_sweep)))
local macro_rules | `(tactic| walk_at "inplaceOp FloorDiv int int") => `(tactic| ((with_reducible refine ifdiv_T ?_ ?_ ?_); decide; decide +kernel; intro _ _))
local macro_rules | `(tactic| walk_at "binaryOp Mod int int") => `(tactic| ((with_reducible refine mod_T ?_ ?_); omega; intro _ _))
local macro_rules | `(tactic| walk_at "subscriptTail") => `(tactic| (k_here; (with_reducible show wpAny _ _ (subscriptTail _ _ (Value.ref _) (Value.int _ _)) _ _ _); k_dflt (refine' litem_T ?M ?N ?a ?b ?x ?_ ?s; (case N => k_asm); (case M => (repeat (first | with_reducible assumption | with_reducible exact List.mem_cons_self | with_reducible refine List.mem_cons_of_mem _ ?_ | with_reducible refine List.mem_append_left _ ?_ | (refine Kept.oth (by with_reducible assumption) _ ?_ ?_; rotate_left; with_reducible assumption)))); (case a => omega); (case b => omega); (case x => with_reducible assumption); (case s => with_unfolding_all rfl); k_whole)))
local macro_rules | `(tactic| walk_at "subscriptTail") => `(tactic| (k_here; (with_reducible show wpAny _ _ (subscriptTail _ _ (Value.ref _) (Value.int (-1) _)) _ _ _); k_dflt (refine' litemN_T ?M ?N ?a ?b ?x ?_ ?s; (case N => k_asm); (case M => (repeat (first | with_reducible assumption | with_reducible exact List.mem_cons_self | with_reducible refine List.mem_cons_of_mem _ ?_ | with_reducible refine List.mem_append_left _ ?_ | (refine Kept.oth (by with_reducible assumption) _ ?_ ?_; rotate_left; with_reducible assumption)))); (case a => rfl); (case b => omega); (case x => with_reducible assumption); (case s => with_unfolding_all rfl); k_whole)))
local macro_rules | `(tactic| walk_at "truthy ref") => `(tactic| (k_here; k_dflt (refine' ltruthy_T ?M ?N ?z ?_; (case N => k_asm); (case M => (repeat (first | with_reducible assumption | with_reducible exact List.mem_cons_self | with_reducible refine List.mem_cons_of_mem _ ?_ | with_reducible refine List.mem_append_left _ ?_ | (refine Kept.oth (by with_reducible assumption) _ ?_ ?_; rotate_left; with_reducible assumption)))); (case z => first | omega | (simp only [List.length_append, List.length_cons, List.length_nil]; omega)); k_whole); intro _))
local macro_rules | `(tactic| walk_at "call builtin:len") => `(tactic| (k_here; (with_reducible show wpAny _ _ (call (Value.builtin "len") [Value.ref _]) _ _ _); k_dflt (refine' llen_T ?M ?N ?z ?_; (case N => k_asm); (case M => (repeat (first | with_reducible assumption | with_reducible exact List.mem_cons_self | with_reducible refine List.mem_cons_of_mem _ ?_ | with_reducible refine List.mem_append_left _ ?_ | (refine Kept.oth (by with_reducible assumption) _ ?_ ?_; rotate_left; with_reducible assumption)))); (case z => first | omega | (simp only [List.length_append, List.length_cons, List.length_nil]; omega)); k_whole); intro _ _))
local macro_rules | `(tactic| walk_at "call builtin:list.append") => `(tactic| (k_here; (with_reducible show wpAny _ _ (call (Value.builtin _) [Value.ref _, _]) _ _ _); k_dflt (refine' append_T (w := _) ?M ?F ?N ?z ?_; (case F => k_asm); (case N => k_asm); (case M => (repeat (first | with_reducible assumption | with_reducible exact List.mem_cons_self | with_reducible refine List.mem_cons_of_mem _ ?_ | with_reducible refine List.mem_append_left _ ?_ | (refine Kept.oth (by with_reducible assumption) _ ?_ ?_; rotate_left; with_reducible assumption)))); (case z => first | omega | (simp only [List.length_append, List.length_cons, List.length_nil]; omega))); intro h' nw' F' N' hin' hk'; (try k_sweep)))
local macro_rules | `(tactic| walk_at "call type:list") => `(tactic| (k_here; (with_reducible show wpAny _ _ (call (Value.type _) [Value.ref _]) _ _ _); k_dflt (refine' lcopy_T ?M ?F ?N ?z ?_; (case F => k_asm); (case N => k_asm); (case M => (repeat (first | with_reducible assumption | with_reducible exact List.mem_cons_self | with_reducible refine List.mem_cons_of_mem _ ?_ | with_reducible refine List.mem_append_left _ ?_ | (refine Kept.oth (by with_reducible assumption) _ ?_ ?_; rotate_left; with_reducible assumption)))); (case z => first | omega | (simp only [List.length_append, List.length_cons, List.length_nil]; omega)); k_whole); intro h' D' c' F' N' hne'; (try k_sweep)))
local macro_rules | `(tactic| walk_at "newList") => `(tactic| (k_here; k_dflt (refine' newlist_T ?F ?N ?_; (case F => k_asm); (case N => k_asm); k_whole); intro h' D' F' N' hne'; (try k_sweep)))
local macro_rules | `(tactic| walk_at "subscriptTail") => `(tactic| (k_here; (with_reducible show wpAny _ _ (subscriptTail _ _ (Value.ref _) (Value.ref _)) _ _ _); k_dflt (with_unfolding_all refine' slice_T ?M ?F ?N ?a ?z ?_ ?s ?t; (case F => k_asm); (case N => k_asm); (case M => (repeat (first | with_reducible assumption | with_reducible exact List.mem_cons_self | with_reducible refine List.mem_cons_of_mem _ ?_ | with_reducible refine List.mem_append_left _ ?_ | (refine Kept.oth (by with_reducible assumption) _ ?_ ?_; rotate_left; with_reducible assumption)))); (case a => omega); (case z => first | omega | (simp only [List.length_append, List.length_cons, List.length_nil]; omega)); (case s => with_unfolding_all rfl); (case t => intro _; with_unfolding_all rfl); k_whole); intro h' D' F' N' hne'; (try k_sweep)))
local macro_rules | `(tactic| walk_at "call ref") => `(tactic| (k_here; (with_reducible show wpAny _ _ (call (Value.ref 121) _) _ _ _); k_dflt (refine' DrawGives.use (g_draw _ _ _ _ _ _ _ ?hi ?hl ?i0 ?i1 ?n0 ?n1) ?hL ?B ?F ?X ?N ?T ?hk ?hd ?hu ?_; (case hL => k_asm); (case hi => first | k_asm | exact Hid.un (by with_reducible assumption)); (case hl => with_reducible assumption); (case i0 => omega); (case i1 => omega); (case n0 => omega); (case n1 => omega); (case B => k_asm); (case F => k_asm); (case X => k_asm); (case N => k_asm); (case T => k_asm); (case hk => rfl); (case hd => ((try dsimp only [Around.deeper, Around.in1, ktrTop]); omega)); (case hu => ((try dsimp only [Around.deeper, Around.in1, ktrTop]); omega)); k_whole); intro k' t' h' tk' F' N' hk1' hk2'; (try dsimp only); (try k_sweep)))
local macro_rules | `(tactic| walk_at "getMethod ref") => `(tactic| (k_here; (with_reducible show wpAny _ _ (getMethod (Value.ref _) (Str.ofString "append") _) _ _ _); k_dflt (refine' methA_T ?M ?N ?_; (case N => k_asm); (case M => (repeat (first | with_reducible assumption | with_reducible exact List.mem_cons_self | with_reducible refine List.mem_cons_of_mem _ ?_ | with_reducible refine List.mem_append_left _ ?_ | (refine Kept.oth (by with_reducible assumption) _ ?_ ?_; rotate_left; with_reducible assumption)))); k_whole)))
local macro_rules | `(tactic| walk_at "binaryOp Mult int int") => `(tactic| ((with_reducible refine mul_T ?_ ?_); intro _ _; rotate_left; first | exact IntMulOk.of_left (by decide) | exact mulOk_small (by omega) (by omega)))
local macro_rules | `(tactic| walk_at "binaryOp Mod int int") => `(tactic| ((with_reducible refine modP_T ?_ ?_); (first | omega | with_reducible assumption); intro r' _ _ hr' hr1' hr2'))

local macro_rules | `(tactic| walk_at "call type:range") => `(tactic| (k_here; (with_reducible show wpAny _ _ (call (Value.type "range") [Value.int _ _]) _ _ _); k_dflt (refine' range1_T ?F ?N ?_; (case F => k_asm); (case N => k_asm); k_whole); intro h' r' tk' t1' u1' v1' R' F' N'; (try k_sweep)))
local macro_rules | `(tactic| walk_at "call type:range") => `(tactic| (k_here; (with_reducible show wpAny _ _ (call (Value.type "range") [Value.int _ _, Value.int _ _]) _ _ _); k_dflt (refine' range2_T ?F ?N ?_; (case F => k_asm); (case N => k_asm); k_whole); intro h' r' tk' t1' u1' v1' R' F' N'; (try k_sweep)))
local macro_rules | `(tactic| walk_at "pyIter ref") => `(tactic| (refine Stop.intro ?_))
local macro_rules | `(tactic| walk_at "assign Tuple") => `(tactic| (k_here; (with_reducible show wpAny _ _ (assign (Expr.Tuple [_, _] _ _) _ (Value.ref _)) _ _ _); k_dflt (refine' unpack2_T ?B ?F ?X ?N ?a ?b ?c ?_; (case F => k_asm); (case X => k_asm); (case N => k_asm); (case B => (repeat (first | with_reducible assumption | with_reducible exact Bears.here | with_reducible refine Bears.cons ?_ | with_reducible refine Bears.app ?_))); (case a => rfl); (case b => rfl); (case c => rfl); k_whole); intro h' F' N'; (try k_sweep)))
local macro_rules | `(tactic| walk_at "compareOp NotEq ref ref") => `(tactic| (k_here; k_dflt (refine' lne_T ?M ?C ?A ?F ?X ?N ?u ?_; (case F => k_asm); (case X => k_asm); (case N => k_asm); (case M => (repeat (first | with_reducible assumption | with_reducible exact List.mem_cons_self | with_reducible refine List.mem_cons_of_mem _ ?_ | with_reducible refine List.mem_append_left _ ?_))); (case C => (repeat (first | with_reducible assumption | with_reducible exact List.mem_cons_self | with_reducible refine List.mem_cons_of_mem _ ?_ | with_reducible refine List.mem_append_left _ ?_))); (case A => (repeat (first | with_reducible assumption | with_reducible apply AllT.app | with_reducible apply AllT.cons))); (case u => ((try dsimp only [Around.deeper, Around.in1, ktrTop]); omega)); k_whole)))
local macro_rules | `(tactic| walk_at "call ref") => `(tactic| (k_here; (with_reducible show wpAny _ _ (call (Value.ref 149) _) _ _ _); k_dflt (refine' MGives.use (w_two ?ta ?tb ?fa ?ra ?rb ?rc ?rd) ?B ?F ?X ?N ?T ?hk ?hd ?hu ?_ ?mo; (case B => k_asm); (case F => k_asm); (case X => k_asm); (case N => k_asm); (case T => k_asm); (case hk => rfl); (case hd => ((try dsimp only [Around.deeper, Around.in1, ktrTop]); omega)); (case hu => ((try dsimp only [Around.deeper, Around.in1, ktrTop]); omega)); (case mo => exact fun _ _ _ hs ht => PairT.mono ht hs); (case ta => first | with_reducible assumption | exact Tn.of_bears (by (repeat (first | with_reducible assumption | with_reducible exact Bears.here | with_reducible refine Bears.cons ?_ | with_reducible refine Bears.app ?_))) rfl); (case tb => first | with_reducible assumption | exact Tn.of_bears (by (repeat (first | with_reducible assumption | with_reducible exact Bears.here | with_reducible refine Bears.cons ?_ | with_reducible refine Bears.app ?_))) rfl); (case fa => with_reducible assumption); (case ra => with_reducible assumption); (case rb => with_reducible assumption); (case rc => with_reducible assumption); (case rd => with_reducible assumption); k_whole); intro r' tl' h' tk' F' N' ho'; (obtain ⟨a', v1', v2', n', e', hB', ⟨b1', k1', k2', k3', k4', n1', e1', hC1'⟩, ⟨b2', j1', j2', j3', j4', n2', e2', hC2'⟩⟩ := ho'); subst e1'; subst e2'; subst e'; (try dsimp only); (try k_sweep)))
theorem fill_C19 (w : World) : True := by
  refine fill_K w ?_
  k_fill
  intro _ _
  trivial

structure W5J (w : World) (pv low Tt : Int) (rs : List Int) (m0 : Str → Option Value) (base : List (Addr × Obj)) (n : Nat) (m : Str → Option Value) (nx : List (Addr × Obj)) : Prop where
  same : Same ["k", "top", "lost"] m0 m
  sub : ∀ q ∈ base, q ∈ nx
  st : ∃ kv tv lv ta la tk, m (Str.ofString "k") = some (.int kv tk) ∧ n = kv.toNat ∧ -1 ≤ kv ∧ kv < rs.length ∧ m (Str.ofString "top") = some (.ref ta) ∧ Tn w nx (.ref ta) (fm low tv) ∧ m (Str.ofString "lost") = some (.ref la) ∧ Tn w nx (.ref la) (fm low lv) ∧ LastOk pv.toNat rs Tt kv.toNat tv lv
set_option maxHeartbeats 40000000 in
theorem law_W {w : World} {fa : Addr} {p : Program} {loose : List Str} {mean : ExcName → Option Value} {mg mb : Str → Option Value} {dp un : Nat} {gd : Option (List Code)} {ccd : Value} {outer : List Env} {A₀ : Around} {base h₀ : Heap} {L : Addr} {m : Str → Option Value} {news : List (Addr × Obj)} {Q : Flow → Shared → Prop} {E : Value → Shared → Prop} {h : Heap} {g : Array GenState} {d : Drawn} {tk : Nat} {o : OsState} {l : Addr} {vs0 : List Value} {ns : List Int} (B : Below A₀ base outer h₀) (F : Fr h₀ L h m) (X : (Mine.hd.heap_39 w.params).In h₀) (N : News h₀ L h news) (T : Top p loose mean mg mb h₀) (hd : dp + 40 < recursionLimit) (hu : un + 400 < cLine) (hL : base.IsList l vs0.toArray) (hi : IntsAre vs0 ns) (hlen : ns.length ≤ 63) (hE : PassesOwn (model PySem.Challenge.rw_aa5008_01.prog w) (ktrTop dp un gd (Str.ofString "law") (lawScope w) L fa ccd [] outer) (envOf (Str.ofString "law") (lawScope w) L fa ccd) E) {Q' : Flow → Shared → Prop} {pv low Tt : Int} {rwA : Addr} {rvs : List Value} {rs : List Int} {rn' n0 : Nat} {s2 : Tok} (hf : Fit pv low)
    (j2 : m (Str.ofString "p") = some (.int pv s2)) (j7 : m (Str.ofString "rows") = some (.ref rwA)) (k1 : (rwA, listOf rvs.toArray rn') ∈ news) (hal : AllT w news low rvs rs) (ok : RowOk pv.toNat rs) (brs : ∀ r ∈ rs, r.natAbs ≤ 2 ^ 240) (hlr : rs.length ≤ 5)
    (hst : W5J w pv low Tt rs m news n0 m news)
    (hcont : ∀ h' tk' m' nf kv tv lv ta la tk2, Fr h₀ L h' m' → News h₀ L h' nf → Same ["k", "top", "lost"] m m' → (∀ q ∈ news, q ∈ nf) → m' (Str.ofString "k") = some (.int kv tk2) → -1 ≤ kv → kv < rs.length → m' (Str.ofString "top") = some (.ref ta) → Tn w nf (.ref ta) (fm low tv) → m' (Str.ofString "lost") = some (.ref la) → Tn w nf (.ref la) (fm low lv) → LastOk pv.toNat rs Tt kv.toNat tv lv →
      (kv ≤ 0 ∨ lv ≠ 0) → Q' .next ⟨h', g, d, tk', o⟩) :
    wpAny (model PySem.Challenge.rw_aa5008_01.prog w) (ktrTop dp un gd (Str.ofString "law") (lawScope w) L fa ccd [] outer) (exec (stAt (lawBody w) 16) (envOf (Str.ofString "law") (lawScope w) L fa ccd)) Q' E ⟨h, g, d, tk, o⟩ := by
  with_unfolding_all (conv in (exec _ _) => arg 1; whnf)
  show wpAny _ _ _ _ _ _
  (try k_fold)
  refine While_inv (n₀ := n0) (W5J w pv low Tt rs m news) F N hst ?_ hE
  rintro n m₁ nx h₂ tk₂ F9 N9 ⟨sm, sb, kv, tv, lv, ta, la, s5, e1, e2, e3, e4, e5, ⟨ta', c1, c2, c3, c4, cn, er, bt⟩, e7, ⟨la', d1, d2, d3, d4, dn, er', bl'⟩, e9⟩
  cases er
  cases er'
  have zl := (fm_is low lv).v0
  have l2 := sm "p" (by simp)
  have l7 := sm "rows" (by simp)
  rw [j2] at l2
  rw [j7] at l7
  have hlen2 : rvs.length = rs.length := hal.1
  by_cases hk : 0 < kv
  · obtain ⟨k, hkk⟩ : ∃ k : Nat, kv = (k : Int) + 1 := ⟨(kv - 1).toNat, by omega⟩
    have hkl : k < rs.length := by omega
    have g1 : rvs[k]? = some rvs[k] := by simp [hlen2, hkl]
    have g2 : rs[k]? = some rs[k] := by simp [hkl]
    obtain ⟨ya, w1, w2, w3, w4, wn, er3, by'⟩ := (hal.mono sb).2 k _ _ g1 g2
    rw [er3] at g1
    have hx : rvs[(kv - 1).toNat]? = some (.ref ya) := by rw [show (kv - 1).toNat = k by omega]; exact g1
    have hyr : rs[k] ∈ rs := List.getElem_mem hkl
    have ry := ok.rep _ hyr
    have cy : rs[k].natAbs < 2 ^ 290 := Nat.lt_of_le_of_lt (brs _ hyr) (Nat.pow_lt_pow_right (by decide) (by omega))
    have ct : tv.natAbs < 2 ^ 290 := Nat.lt_of_le_of_lt e9.bt (Nat.pow_lt_pow_right (by decide) (by omega))
    have rt := e9.rt
    have k2 := sb _ k1
    by_cases hl : lv = 0
    · have hm0 : (fm low lv).m = 0 := zl.mpr hl
      subst hl
      rw [show kv.toNat = k + 1 by omega] at e9
      have hstep := e9.step (by have := hf.p0; omega) ok (by omega) g2 (brs _ hyr)
      show wpAny _ _ _ _ _ _
      (try k_fold)
      k_steps
      exact WhileStep.intro (by k_asm) (by k_asm) (n' := k) (by omega) ⟨((sm.set (by simp)).set (by simp)).set (by simp), fun q hq => sub_app q (sb q hq), _, _, _, _, _, _, (by (first | with_reducible exact look_here | with_reducible assumption | (simp only [ofString_eq, mapOf, String.reduceEq, ↓reduceIte] <;> first | rfl | with_reducible assumption))), by omega, by omega, by omega, (by (first | with_reducible exact look_here | with_reducible assumption | (simp only [ofString_eq, mapOf, String.reduceEq, ↓reduceIte] <;> first | rfl | with_reducible assumption))), Tn.of_bears (by with_reducible assumption) rfl, (by (first | with_reducible exact look_here | with_reducible assumption | (simp only [ofString_eq, mapOf, String.reduceEq, ↓reduceIte] <;> first | rfl | with_reducible assumption))), Tn.of_bears (by with_reducible assumption) rfl, by rw [show (kv - 1).toNat = k by omega]; exact hstep⟩
    · have hm0 : (fm low lv).m ≠ 0 := fun h9 => hl (zl.mp h9)
      show wpAny _ _ _ _ _ _
      (try k_fold)
      k_steps
      exact hcont _ _ _ _ _ _ _ _ _ _ F9 N9 sm sb e1 e3 e4 e5 ⟨_, _, _, _, _, _, rfl, bt⟩ e7 ⟨_, _, _, _, _, _, rfl, bl'⟩ e9 (.inr hl)
  · show wpAny _ _ _ _ _ _
    (try k_fold)
    k_steps
    exact hcont _ _ _ _ _ _ _ _ _ _ F9 N9 sm sb e1 e3 e4 e5 ⟨_, _, _, _, _, _, rfl, bt⟩ e7 ⟨_, _, _, _, _, _, rfl, bl'⟩ e9 (.inl (by omega))
end Mine

-- C20
set_option maxRecDepth 100000
namespace Mine
open PySem PySem.W PyProof.Rows PySem.Spec PySem.Calls
local macro_rules | `(tactic| walk_at "never 0") => `(tactic| fail "never")
local macro_rules | `(tactic| walk_at "never 1") => `(tactic| fail "never")
local macro_rules | `(tactic| walk_at "never 2") => `(tactic| fail "never")
local macro_rules | `(tactic| walk_at "never 3") => `(tactic| fail "never")
-- the walk's own lines: each step's token and heap named anew
local macro_rules | `(tactic| walk_at "binaryOp Add int int") => `(tactic| (with_reducible refine add_T ?_; intro _ _))
local macro_rules | `(tactic| walk_at "binaryOp Sub int int") => `(tactic| (with_reducible refine sub_T ?_; intro _ _))
local macro_rules | `(tactic| walk_at "binaryOp BitAnd int int") => `(tactic| (with_reducible refine and_T ?_; intro _ _))
local macro_rules | `(tactic| walk_at "binaryOp BitXor int int") => `(tactic| (with_reducible refine xor_T ?_; intro _ _))
local macro_rules | `(tactic| walk_at "inplaceOp Add int int") => `(tactic| (with_reducible refine iadd_T ?_; intro _ _))
local macro_rules | `(tactic| walk_at "inplaceOp Sub int int") => `(tactic| (with_reducible refine isub_T ?_; intro _ _))
local macro_rules | `(tactic| walk_at "inplaceOp BitXor int int") => `(tactic| (with_reducible refine ixor_T ?_; intro _ _))
local macro_rules | `(tactic| walk_at "binaryOp RShift int int") => `(tactic| ((with_reducible refine rsh_T ?_ ?_); omega; intro _ _))
local macro_rules | `(tactic| walk_at "inplaceOp RShift int int") => `(tactic| ((with_reducible refine irsh_T ?_ ?_); omega; intro _ _))
local macro_rules | `(tactic| walk_at "binaryOp LShift int int") => `(tactic| ((with_reducible refine lsh_T ?_ ?_ ?_); omega; (try simp only [bits_one]); omega; intro _ _))
local macro_rules | `(tactic| walk_at "inplaceOp LShift int int") => `(tactic| ((with_reducible refine ilsh_T ?_ ?_ ?_); omega; (try simp only [bits_one]); omega; intro _ _))
local macro_rules | `(tactic| walk_at "unaryOp USub int") => `(tactic| (with_reducible refine neg_T ?_; intro _ _))
local macro_rules | `(tactic| walk_at "call builtin:int.bit_length") => `(tactic| (with_reducible refine bits_T ?_; intro _ _))
local macro_rules | `(tactic| walk_at "eval Constant int") => `(tactic| (with_reducible refine const_T ?_; intro _ _))
local macro_rules | `(tactic| walk_at "storeName") => `(tactic| (k_here; k_dflt (refine' store_T ?F ?N ?_ ?a ?b; (case F => k_asm); (case N => k_asm); (case a => rfl); (case b => rfl); k_whole); intro h' tk' F' N'; (try k_sweep)))
local macro_rules | `(tactic| walk_at "newTuple") => `(tactic| (k_here; k_dflt (refine' tuple_T ?F ?N ?s ?_; (case F => k_asm); (case N => k_asm); (case s => decide); k_whole); intro h' r' F' N'; (try k_sweep)))
local macro_rules | `(tactic| walk_at "assign Tuple") => `(tactic| (k_here; (with_reducible show wpAny _ _ (assign (Expr.Tuple _ _ _) _ (Value.ref _)) _ _ _); k_dflt (refine' unpack_T ?B ?F ?X ?N ?a ?b ?c ?_; (case F => k_asm); (case X => k_asm); (case N => k_asm); (case B => (repeat (first | assumption | with_reducible exact Bears.here | exact finfB _ _ | exact fninfB _ _ | exact fzeroB _ _ | with_reducible refine Bears.cons ?_ | with_reducible refine Bears.app ?_))); (case a => rfl); (case b => rfl); (case c => rfl); k_whole); intro h' F' N'; (try k_sweep)))
local macro_rules | `(tactic| walk_at "ite") => `(tactic| with_reducible first
  | (refine dec_split ?_ ?_ <;> intro _) | (refine bne_split ?_ ?_ <;> intro _) | (refine beq_split ?_ ?_ <;> intro _))
local macro_rules | `(tactic| walk_at "compareOp Eq ref ref") => `(tactic| (k_here; k_dflt (first
  | (refine' eq_T ?B ?C ?F ?X ?N ?u ?_; (case F => k_asm); (case X => k_asm); (case N => k_asm); (case B => (repeat (first | assumption | with_reducible exact Bears.here | exact finfB _ _ | exact fninfB _ _ | exact fzeroB _ _ | with_reducible refine Bears.cons ?_ | with_reducible refine Bears.app ?_))); (case C => (repeat (first | assumption | with_reducible exact Bears.here | exact finfB _ _ | exact fninfB _ _ | exact fzeroB _ _ | with_reducible refine Bears.cons ?_ | with_reducible refine Bears.app ?_))); (case u => ((try dsimp only [Around.deeper, Around.in1, ktrTop]); omega)); k_whole)
  | (refine' eqL_T ?B ?C ?F ?X ?N ?u ?_; (case F => k_asm); (case X => k_asm); (case N => k_asm); (case B => (repeat (first | assumption | with_reducible exact Bears.here | exact finfB _ _ | exact fninfB _ _ | exact fzeroB _ _ | with_reducible refine Bears.cons ?_ | with_reducible refine Bears.app ?_))); (case C => (repeat (first | assumption | with_reducible exact Bears.here | exact finfB _ _ | exact fninfB _ _ | exact fzeroB _ _ | with_reducible refine Bears.cons ?_ | with_reducible refine Bears.app ?_))); (case u => ((try dsimp only [Around.deeper, Around.in1, ktrTop]); omega)); k_whole))))
local macro_rules | `(tactic| walk_at "compareOp NotEq ref ref") => `(tactic| (k_here; k_dflt (refine' ne_T ?B ?C ?F ?X ?N ?u ?_; (case F => k_asm); (case X => k_asm); (case N => k_asm); (case B => (repeat (first | assumption | with_reducible exact Bears.here | exact finfB _ _ | exact fninfB _ _ | exact fzeroB _ _ | with_reducible refine Bears.cons ?_ | with_reducible refine Bears.app ?_))); (case C => (repeat (first | assumption | with_reducible exact Bears.here | exact finfB _ _ | exact fninfB _ _ | exact fzeroB _ _ | with_reducible refine Bears.cons ?_ | with_reducible refine Bears.app ?_))); (case u => ((try dsimp only [Around.deeper, Around.in1, ktrTop]); omega)); k_whole)))
local macro_rules | `(tactic| walk_at "subscriptTail") => `(tactic| (k_here; (with_reducible show wpAny _ _ (subscriptTail _ _ (Value.ref _) (Value.int _ _)) _ _ _); k_dflt (refine' item_T ?B ?F ?X ?N ?i ?x ?_ ?s; (case F => k_asm); (case X => k_asm); (case N => k_asm); (case B => (repeat (first | assumption | with_reducible exact Bears.here | exact finfB _ _ | exact fninfB _ _ | exact fzeroB _ _ | with_reducible refine Bears.cons ?_ | with_reducible refine Bears.app ?_))); (case i => omega); (case x => rfl); (case s => with_unfolding_all rfl); k_whole)))
local macro_rules | `(tactic| walk_at "binaryOp Pow int int") => `(tactic| ((with_reducible refine pow_T ?_ ?_ ?_ ?_); omega; omega; omega; intro _ _))
local macro_rules | `(tactic| walk_at "ite") => `(tactic| with_reducible first
  | (refine eqb_tt (by assumption) ?_) | (refine eqb_ff (by assumption) ?_) | (refine eqb_ff_e (by (dsimp only; omega)) ?_))
local macro_rules | `(tactic| walk_at "ite") => `(tactic| with_reducible first
  | (refine dec_tt (by omega) ?_) | (refine dec_ff (by omega) ?_) | (refine bne_tt (by omega) ?_) | (refine bne_ff (by omega) ?_) | (refine beq_tt (by omega) ?_) | (refine beq_ff (by omega) ?_) | (refine not_ite ?_))
local macro_rules | `(tactic| walk_at "eval Name") => `(tactic| (k_here; k_dflt (refine' name_G ?F ?X ?T ?e ?_ ?a ?b ?c; (case F => k_asm); (case X => k_asm); (case T => k_asm); (case e => k_is); (case b => kernel_rfl);  (case a => rfl); (case c => kernel_rfl); k_whole)))
local macro_rules | `(tactic| walk_at "eval Name") => `(tactic| (k_here; k_dflt (refine' name_T ?F ?v ?_ ?a ?b ?c; (case F => k_asm); (case v => (first | with_reducible exact look_here | with_reducible assumption | (simp only [ofString_eq, mapOf, String.reduceEq, ↓reduceIte] <;> first | rfl | with_reducible assumption))); (case b => kernel_rfl); (case a => rfl); (case c => kernel_rfl); k_whole)))
local macro_rules | `(tactic| walk_at "loadName") => `(tactic| (k_here; k_dflt (refine' loadn_T ?F ?v ?_ ?a ?b; (case F => k_asm); (case v => (first | with_reducible exact look_here | with_reducible assumption | (simp only [ofString_eq, mapOf, String.reduceEq, ↓reduceIte] <;> first | rfl | with_reducible assumption))); (case b => kernel_rfl); (case a => rfl); k_whole)))
local macro_rules | `(tactic| walk_at "exec If") => `(tactic| with_reducible refine wpAny_If ?_)
local macro_rules | `(tactic| walk_at "exec For Name Name cons nil") => `(tactic| (refine Stop.intro ?_))
local macro_rules | `(tactic| walk_at "exec For Name Call cons nil") => `(tactic| (refine Stop.intro ?_))
local macro_rules | `(tactic| walk_at "exec While Compare cons nil") => `(tactic| (refine Stop.intro ?_))
local macro_rules | `(tactic| walk_at "exec While BoolOp cons nil") => `(tactic| (refine Stop.intro ?_))
local macro_rules | `(tactic| walk_at "call builtin:isinstance") => `(tactic| (k_here; (with_reducible show wpAny _ _ (call (Value.builtin "isinstance") [Value.ref _, Value.type "tuple"]) _ _ _); k_dflt (refine' isi_T ?B ?F ?X ?N ?_; (case F => k_asm); (case X => k_asm); (case N => k_asm); (case B => (repeat (first | assumption | with_reducible exact Bears.here | exact finfB _ _ | exact fninfB _ _ | exact fzeroB _ _ | with_reducible refine Bears.cons ?_ | with_reducible refine Bears.app ?_))); k_whole)))
local macro_rules | `(tactic| walk_at "call builtin:len") => `(tactic| (k_here; (with_reducible show wpAny _ _ (call (Value.builtin "len") [Value.ref _]) _ _ _); k_dflt (refine' len_T ?B ?F ?X ?N ?_; (case F => k_asm); (case X => k_asm); (case N => k_asm); (case B => (repeat (first | assumption | with_reducible exact Bears.here | exact finfB _ _ | exact fninfB _ _ | exact fzeroB _ _ | with_reducible refine Bears.cons ?_ | with_reducible refine Bears.app ?_))); k_whole); intro _ _))
local macro_rules | `(tactic| walk_at "call builtin:divmod") => `(tactic| (k_here; k_dflt (refine' divmod_T ?F ?N ?b ?p ?_; (case F => k_asm); (case N => k_asm); (case b => first | with_reducible assumption | omega); (case p => with_reducible assumption); k_whole); intro h' r' t1' t2' tk' F' N'; (try k_sweep)))
local macro_rules | `(tactic| walk_at "inplaceOp FloorDiv int int") => `(tactic| ((with_reducible refine ifdiv_T ?_ ?_ ?_); decide; decide +kernel; intro _ _))
local macro_rules | `(tactic| walk_at "binaryOp Mod int int") => `(tactic| ((with_reducible refine mod_T ?_ ?_); omega; intro _ _))
local macro_rules | `(tactic| walk_at "subscriptTail") => `(tactic| (k_here; (with_reducible show wpAny _ _ (subscriptTail _ _ (Value.ref _) (Value.int _ _)) _ _ _); k_dflt (refine' litem_T ?M ?N ?a ?b ?x ?_ ?s; (case N => k_asm); (case M => (repeat (first | with_reducible assumption | with_reducible exact List.mem_cons_self | with_reducible refine List.mem_cons_of_mem _ ?_ | with_reducible refine List.mem_append_left _ ?_ | (refine Kept.oth (by with_reducible assumption) _ ?_ ?_; rotate_left; with_reducible assumption)))); (case a => omega); (case b => omega); (case x => with_reducible assumption); (case s => with_unfolding_all rfl); k_whole)))
local macro_rules | `(tactic| walk_at "subscriptTail") => `(tactic| (k_here; (with_reducible show wpAny _ _ (subscriptTail _ _ (Value.ref _) (Value.int (-1) _)) _ _ _); k_dflt (refine' litemN_T ?M ?N ?a ?b ?x ?_ ?s; (case N => k_asm); (case M => (repeat (first | with_reducible assumption | with_reducible exact List.mem_cons_self | with_reducible refine List.mem_cons_of_mem _ ?_ | with_reducible refine List.mem_append_left _ ?_ | (refine Kept.oth (by with_reducible assumption) _ ?_ ?_; rotate_left; with_reducible assumption)))); (case a => rfl); (case b => omega); (case x => with_reducible assumption); (case s => with_unfolding_all rfl); k_whole)))
local macro_rules | `(tactic| walk_at "truthy ref") => `(tactic| (k_here; k_dflt (refine' ltruthy_T ?M ?N ?z ?_; (case N => k_asm); (case M => (repeat (first | with_reducible assumption | with_reducible exact List.mem_cons_self | with_reducible refine List.mem_cons_of_mem _ ?_ | with_reducible refine List.mem_append_left _ ?_ | (refine Kept.oth (by with_reducible assumption) _ ?_ ?_; rotate_left; with_reducible assumption)))); (case z => first | omega | (simp only [List.length_append, List.length_cons, List.length_nil]; omega)); k_whole); intro _))
local macro_rules | `(tactic| walk_at "call builtin:len") => `(tactic| (k_here; (with_reducible show wpAny _ _ (call (Value.builtin "len") [Value.ref _]) _ _ _); k_dflt (refine' llen_T ?M ?N ?z ?_; (case N => k_asm); (case M => (repeat (first | with_reducible assumption | with_reducible exact List.mem_cons_self | with_reducible refine List.mem_cons_of_mem _ ?_ | with_reducible refine List.mem_append_left _ ?_ | (refine Kept.oth (by with_reducible assumption) _ ?_ ?_; rotate_left; with_reducible assumption)))); (case z => first | omega | (simp only [List.length_append, List.length_cons, List.length_nil]; omega)); k_whole); intro _ _))
local macro_rules | `(tactic| walk_at "call builtin:list.append") => `(tactic| (k_here; (with_reducible show wpAny _ _ (call (Value.builtin _) [Value.ref _, _]) _ _ _); k_dflt (refine' append_T (w := _) ?M ?F ?N ?z ?_; (case F => k_asm); (case N => k_asm); (case M => (repeat (first | with_reducible assumption | with_reducible exact List.mem_cons_self | with_reducible refine List.mem_cons_of_mem _ ?_ | with_reducible refine List.mem_append_left _ ?_ | (refine Kept.oth (by with_reducible assumption) _ ?_ ?_; rotate_left; with_reducible assumption)))); (case z => first | omega | (simp only [List.length_append, List.length_cons, List.length_nil]; omega))); intro h' nw' F' N' hin' hk'; (try k_sweep)))
local macro_rules | `(tactic| walk_at "call type:list") => `(tactic| (k_here; (with_reducible show wpAny _ _ (call (Value.type _) [Value.ref _]) _ _ _); k_dflt (refine' lcopy_T ?M ?F ?N ?z ?_; (case F => k_asm); (case N => k_asm); (case M => (repeat (first | with_reducible assumption | with_reducible exact List.mem_cons_self | with_reducible refine List.mem_cons_of_mem _ ?_ | with_reducible refine List.mem_append_left _ ?_ | (refine Kept.oth (by with_reducible assumption) _ ?_ ?_; rotate_left; with_reducible assumption)))); (case z => first | omega | (simp only [List.length_append, List.length_cons, List.length_nil]; omega)); k_whole); intro h' D' c' F' N' hne'; (try k_sweep)))
local macro_rules | `(tactic| walk_at "newList") => `(tactic| (k_here; k_dflt (refine' newlist_T ?F ?N ?_; (case F => k_asm); (case N => k_asm); k_whole); intro h' D' F' N' hne'; (try k_sweep)))
local macro_rules | `(tactic| walk_at "subscriptTail") => `(tactic| (k_here; (with_reducible show wpAny _ _ (subscriptTail _ _ (Value.ref _) (Value.ref _)) _ _ _); k_dflt (with_unfolding_all refine' slice_T ?M ?F ?N ?a ?z ?_ ?s ?t; (case F => k_asm); (case N => k_asm); (case M => (repeat (first | with_reducible assumption | with_reducible exact List.mem_cons_self | with_reducible refine List.mem_cons_of_mem _ ?_ | with_reducible refine List.mem_append_left _ ?_ | (refine Kept.oth (by with_reducible assumption) _ ?_ ?_; rotate_left; with_reducible assumption)))); (case a => omega); (case z => first | omega | (simp only [List.length_append, List.length_cons, List.length_nil]; omega)); (case s => with_unfolding_all rfl); (case t => intro _; with_unfolding_all rfl); k_whole); intro h' D' F' N' hne'; (try k_sweep)))
local macro_rules | `(tactic| walk_at "call ref") => `(tactic| (k_here; (with_reducible show wpAny _ _ (call (Value.ref 121) _) _ _ _); k_dflt (refine' DrawGives.use (g_draw _ _ _ _ _ _ _ ?hi ?hl ?i0 ?i1 ?n0 ?n1) ?hL ?B ?F ?X ?N ?T ?hk ?hd ?hu ?_; (case hL => k_asm); (case hi => first | k_asm | exact Hid.un (by with_reducible assumption)); (case hl => with_reducible assumption); (case i0 => omega); (case i1 => omega); (case n0 => omega); (case n1 => omega); (case B => k_asm); (case F => k_asm); (case X => k_asm); (case N => k_asm); (case T => k_asm); (case hk => rfl); (case hd => ((try dsimp only [Around.deeper, Around.in1, ktrTop]); omega)); (case hu => ((try dsimp only [Around.deeper, Around.in1, ktrTop]); omega)); k_whole); intro k' t' h' tk' F' N' hk1' hk2'; (try dsimp only); (try k_sweep)))
local macro_rules | `(tactic| walk_at "getMethod ref") => `(tactic| (k_here; (with_reducible show wpAny _ _ (getMethod (Value.ref _) (Str.ofString "append") _) _ _ _); k_dflt (refine' methA_T ?M ?N ?_; (case N => k_asm); (case M => (repeat (first | with_reducible assumption | with_reducible exact List.mem_cons_self | with_reducible refine List.mem_cons_of_mem _ ?_ | with_reducible refine List.mem_append_left _ ?_ | (refine Kept.oth (by with_reducible assumption) _ ?_ ?_; rotate_left; with_reducible assumption)))); k_whole)))
local macro_rules | `(tactic| walk_at "binaryOp Mult int int") => `(tactic| ((with_reducible refine mul_T ?_ ?_); intro _ _; rotate_left; first | exact IntMulOk.of_left (by decide) | exact mulOk_small (by omega) (by omega)))
local macro_rules | `(tactic| walk_at "binaryOp Mod int int") => `(tactic| ((with_reducible refine modP_T ?_ ?_); (first | omega | with_reducible assumption); intro r' _ _ hr' hr1' hr2'))

local macro_rules | `(tactic| walk_at "call type:range") => `(tactic| (k_here; (with_reducible show wpAny _ _ (call (Value.type "range") [Value.int _ _]) _ _ _); k_dflt (refine' range1_T ?F ?N ?_; (case F => k_asm); (case N => k_asm); k_whole); intro h' r' tk' t1' u1' v1' R' F' N'; (try k_sweep)))
local macro_rules | `(tactic| walk_at "call type:range") => `(tactic| (k_here; (with_reducible show wpAny _ _ (call (Value.type "range") [Value.int _ _, Value.int _ _]) _ _ _); k_dflt (refine' range2_T ?F ?N ?_; (case F => k_asm); (case N => k_asm); k_whole); intro h' r' tk' t1' u1' v1' R' F' N'; (try k_sweep)))
local macro_rules | `(tactic| walk_at "pyIter ref") => `(tactic| (refine Stop.intro ?_))
local macro_rules | `(tactic| walk_at "assign Tuple") => `(tactic| (k_here; (with_reducible show wpAny _ _ (assign (Expr.Tuple [_, _] _ _) _ (Value.ref _)) _ _ _); k_dflt (refine' unpack2_T ?B ?F ?X ?N ?a ?b ?c ?_; (case F => k_asm); (case X => k_asm); (case N => k_asm); (case B => (repeat (first | with_reducible assumption | with_reducible exact Bears.here | with_reducible refine Bears.cons ?_ | with_reducible refine Bears.app ?_))); (case a => rfl); (case b => rfl); (case c => rfl); k_whole); intro h' F' N'; (try k_sweep)))
local macro_rules | `(tactic| walk_at "compareOp NotEq ref ref") => `(tactic| (k_here; k_dflt (refine' lne_T ?M ?C ?A ?F ?X ?N ?u ?_; (case F => k_asm); (case X => k_asm); (case N => k_asm); (case M => (repeat (first | with_reducible assumption | with_reducible exact List.mem_cons_self | with_reducible refine List.mem_cons_of_mem _ ?_ | with_reducible refine List.mem_append_left _ ?_))); (case C => (repeat (first | with_reducible assumption | with_reducible exact List.mem_cons_self | with_reducible refine List.mem_cons_of_mem _ ?_ | with_reducible refine List.mem_append_left _ ?_))); (case A => (repeat (first | with_reducible assumption | with_reducible apply AllT.app | with_reducible apply AllT.cons))); (case u => ((try dsimp only [Around.deeper, Around.in1, ktrTop]); omega)); k_whole)))
local macro_rules | `(tactic| walk_at "call ref") => `(tactic| (k_here; (with_reducible show wpAny _ _ (call (Value.ref 128) _) _ _ _); k_dflt (refine' MGives.useP (w_form400 ?ta ?fa ?ra) ?B ?F ?X ?N ?T ?hk ?hd ?hu ?_; (case B => k_asm); (case F => k_asm); (case X => k_asm); (case N => k_asm); (case T => k_asm); (case hk => rfl); (case hd => ((try dsimp only [Around.deeper, Around.in1, ktrTop]); omega)); (case hu => ((try dsimp only [Around.deeper, Around.in1, ktrTop]); omega)); (case ta => first | with_reducible assumption | exact Tn.of_bears (by (repeat (first | with_reducible assumption | with_reducible exact Bears.here | with_reducible refine Bears.cons ?_ | with_reducible refine Bears.app ?_))) rfl); (case fa => with_reducible assumption); (case ra => with_reducible assumption); k_whole); intro r' h' tk' F' N' ho'; refine Exists.elim ho' ?_; clear ho'; intro t' e'; subst e'; (try dsimp only); (try k_sweep)))
local macro_rules | `(tactic| walk_at "call ref") => `(tactic| (k_here; (with_reducible show wpAny _ _ (call (Value.ref 135) _) _ _ _); k_dflt (refine' MGives.useP (w_whole ?ta ?fa ?ra) ?B ?F ?X ?N ?T ?hk ?hd ?hu ?_; (case B => k_asm); (case F => k_asm); (case X => k_asm); (case N => k_asm); (case T => k_asm); (case hk => rfl); (case hd => ((try dsimp only [Around.deeper, Around.in1, ktrTop]); omega)); (case hu => ((try dsimp only [Around.deeper, Around.in1, ktrTop]); omega)); (case ta => first | with_reducible assumption | exact Tn.of_bears (by (repeat (first | with_reducible assumption | with_reducible exact Bears.here | with_reducible refine Bears.cons ?_ | with_reducible refine Bears.app ?_))) rfl); (case fa => with_reducible assumption); (case ra => with_reducible assumption); k_whole); intro r' h' tk' F' N' ho'; refine Exists.elim ho' ?_; clear ho'; intro t' e'; subst e'; (try dsimp only); (try k_sweep)))
local macro_rules | `(tactic| walk_at "call ref") => `(tactic| (k_here; (with_reducible show wpAny _ _ (call (Value.ref 83) _) _ _ _); k_dflt (refine' MGives.useP (w_sign ?ta) ?B ?F ?X ?N ?T ?hk ?hd ?hu ?_; (case B => k_asm); (case F => k_asm); (case X => k_asm); (case N => k_asm); (case T => k_asm); (case hk => rfl); (case hd => ((try dsimp only [Around.deeper, Around.in1, ktrTop]); omega)); (case hu => ((try dsimp only [Around.deeper, Around.in1, ktrTop]); omega)); (case ta => first | with_reducible assumption | exact Tn.of_bears (by (repeat (first | with_reducible assumption | with_reducible exact Bears.here | with_reducible refine Bears.cons ?_ | with_reducible refine Bears.app ?_))) rfl); k_whole); intro r' h' tk' F' N' ho'; refine Exists.elim ho' ?_; clear ho'; intro t' e'; subst e'; (try dsimp only); (try k_sweep)))
local macro_rules | `(tactic| walk_at "call ref") => `(tactic| (k_here; (with_reducible show wpAny _ _ (call (Value.ref 107) _) _ _ _); k_dflt (refine' MGives.use (w_sumT ?ma ?aa ?fa ?ra ?rb ?rc) ?B ?F ?X ?N ?T ?hk ?hd ?hu ?_ ?mo; (case B => k_asm); (case F => k_asm); (case X => k_asm); (case N => k_asm); (case T => k_asm); (case hk => rfl); (case hd => ((try dsimp only [Around.deeper, Around.in1, ktrTop]); omega)); (case hu => ((try dsimp only [Around.deeper, Around.in1, ktrTop]); omega)); (case mo => exact fun _ _ _ hs ht => Tn.mono ht hs); (case ma => (repeat (first | with_reducible assumption | with_reducible exact List.mem_cons_self | with_reducible refine List.mem_cons_of_mem _ ?_ | with_reducible refine List.mem_append_left _ ?_))); (case aa => (repeat (first | with_reducible assumption | with_reducible apply AllT.app | with_reducible apply AllT.cons))); (case fa => with_reducible assumption); (case ra => with_reducible assumption); (case rb => with_reducible assumption); (case rc => with_reducible assumption); k_whole); intro r' tl' h' tk' F' N' ho'; (obtain ⟨a', k1', k2', k3', k4', n', e', hB'⟩ := ho'); subst e'; (try dsimp only); (try k_sweep)))
theorem fill_C20 (w : World) : True := by
  refine fill_K w ?_
  k_fill
  intro _ _
  trivial

set_option maxHeartbeats 40000000 in
theorem law_top {w : World} {fa : Addr} {p : Program} {loose : List Str} {mean : ExcName → Option Value} {mg mb : Str → Option Value} {dp un : Nat} {gd : Option (List Code)} {ccd : Value} {outer : List Env} {A₀ : Around} {base h₀ : Heap} {L : Addr} {m : Str → Option Value} {news : List (Addr × Obj)} {Q : Flow → Shared → Prop} {E : Value → Shared → Prop} {h : Heap} {g : Array GenState} {d : Drawn} {tk : Nat} {o : OsState} {l : Addr} {vs0 : List Value} {ns : List Int} (B : Below A₀ base outer h₀) (F : Fr h₀ L h m) (X : (Mine.hd.heap_39 w.params).In h₀) (N : News h₀ L h news) (T : Top p loose mean mg mb h₀) (hd : dp + 40 < recursionLimit) (hu : un + 400 < cLine) (hL : base.IsList l vs0.toArray) (hi : IntsAre vs0 ns) (hlen : ns.length ≤ 63) {Q' : Flow → Shared → Prop} {low : Int} {ta la rwA : Addr} {rvs : List Value} {rs : List Int} {rn' : Nat} {s1 : Tok}
    (jt : m (Str.ofString "top") = some (.ref ta)) (ht : Tn w news (.ref ta) (fm low 0)) (jl : m (Str.ofString "lost") = some (.ref la)) (hl : Tn w news (.ref la) (fm low 0)) (jk : m (Str.ofString "k") = some (.int ((rvs.length : Nat) - 1) s1)) (jr : m (Str.ofString "rows") = some (.ref rwA))
    (k1 : (rwA, listOf rvs.toArray rn') ∈ news) (hal : AllT w news low rvs rs) (hlr : rs.length ≤ 5)
    (hcont : ∀ h' tk' m' ta' tv, Fr h₀ L h' m' → News h₀ L h' news → Same ["top"] m m' → m' (Str.ofString "top") = some (.ref ta') → Tn w news (.ref ta') (fm low tv) → m' (Str.ofString "lost") = some (.ref la) → Tn w news (.ref la) (fm low 0) →
      ((rs = [] ∧ tv = 0) ∨ ∃ k, rs.length = k + 1 ∧ rs[k]? = some tv) → Q' .next ⟨h', g, d, tk', o⟩) :
    wpAny (model PySem.Challenge.rw_aa5008_01.prog w) (ktrTop dp un gd (Str.ofString "law") (lawScope w) L fa ccd [] outer) (exec (stAt (lawBody w) 14) (envOf (Str.ofString "law") (lawScope w) L fa ccd)) Q' E ⟨h, g, d, tk, o⟩ := by
  have hlen2 : rvs.length = rs.length := hal.1
  with_unfolding_all (conv in (exec _ _) => arg 1; whnf)
  by_cases he : rs.length = 0
  · have hz : ¬ 0 < rvs.length := by omega
    show wpAny _ _ _ _ _ _
    (try k_fold)
    k_steps
    exact hcont _ _ _ _ _ F (by k_asm) Same.refl jt ht jl hl (.inl ⟨List.length_eq_zero_iff.mp he, rfl⟩)
  · obtain ⟨k, hk⟩ : ∃ k, rs.length = k + 1 := ⟨rs.length - 1, by omega⟩
    have hkl : k < rs.length := by omega
    have g1 : rvs[k]? = some rvs[k] := by simp [hlen2, hkl]
    have g2 : rs[k]? = some rs[k] := by simp [hkl]
    obtain ⟨ya, w1, w2, w3, w4, wn, er3, by'⟩ := hal.2 k _ _ g1 g2
    rw [er3] at g1
    have hx : rvs[(((rvs.length : Nat) : Int) - 1).toNat]? = some (.ref ya) := by rw [show (((rvs.length : Nat) : Int) - 1).toNat = k by omega]; exact g1
    have hz : 0 < rvs.length := by omega
    show wpAny _ _ _ _ _ _
    (try k_fold)
    k_steps
    exact hcont _ _ _ _ _ (by k_asm) (by k_asm) (Same.refl.set (by simp)) (by (first | with_reducible exact look_here | with_reducible assumption | (simp only [ofString_eq, mapOf, String.reduceEq, ↓reduceIte] <;> first | rfl | with_reducible assumption))) (Tn.of_bears by' rfl) (by (first | with_reducible exact look_here | with_reducible assumption | (simp only [ofString_eq, mapOf, String.reduceEq, ↓reduceIte] <;> first | rfl | with_reducible assumption))) hl (.inr ⟨k, hk, g2⟩)
/-- what law's last lines are told -/
structure EndAt (w : World) (pv low Tt : Int) (rwA : Addr) (rvs : List Value) (rs : List Int) (kv tv lv : Int) (m : Str → Option Value) (nf : List (Addr × Obj)) : Prop where
  mp : ∃ t, m (Str.ofString "p") = some (.int pv t)
  ml : ∃ t, m (Str.ofString "low") = some (.int low t)
  tot : ∃ t, m (Str.ofString "total") = some (.int Tt t)
  ex : ∃ ea, m (Str.ofString "exact") = some (.ref ea) ∧ Tn w nf (.ref ea) (fm low Tt)
  rw : m (Str.ofString "rows") = some (.ref rwA)
  lr : ∃ n, (rwA, listOf rvs.toArray n) ∈ nf
  al : AllT w nf low rvs rs
  kk : ∃ t, m (Str.ofString "k") = some (.int kv t)
  top : ∃ ta, m (Str.ofString "top") = some (.ref ta) ∧ Tn w nf (.ref ta) (fm low tv)
  lost : ∃ la, m (Str.ofString "lost") = some (.ref la) ∧ Tn w nf (.ref la) (fm low lv)
structure EndOk (pv Tt : Int) (rs : List Int) (kv tv lv : Int) : Prop where
  ok : RowOk pv.toNat rs
  brs : ∀ r ∈ rs, r.natAbs ≤ 2 ^ 240
  hlr : rs.length ≤ 5
  k0 : -1 ≤ kv
  k1 : kv < rs.length
  lo : LastOk pv.toNat rs Tt kv.toNat tv lv
  out : kv ≤ 0 ∨ lv ≠ 0
  bT : Tt.natAbs < 2 ^ 300
local macro_rules | `(tactic| walk_at "exec If Name") => `(tactic| (refine Stop.intro ?_))
set_option maxHeartbeats 40000000 in
theorem law_c {w : World} {fa : Addr} {p : Program} {loose : List Str} {mean : ExcName → Option Value} {mg mb : Str → Option Value} {dp un : Nat} {gd : Option (List Code)} {ccd : Value} {outer : List Env} {A₀ : Around} {base h₀ : Heap} {L : Addr} {m : Str → Option Value} {news : List (Addr × Obj)} {Q : Flow → Shared → Prop} {E : Value → Shared → Prop} {h : Heap} {g : Array GenState} {d : Drawn} {tk : Nat} {o : OsState} {l : Addr} {vs0 : List Value} {ns : List Int} (B : Below A₀ base outer h₀) (F : Fr h₀ L h m) (X : (Mine.hd.heap_39 w.params).In h₀) (N : News h₀ L h news) (T : Top p loose mean mg mb h₀) (hd : dp + 40 < recursionLimit) (hu : un + 400 < cLine) (hL : base.IsList l vs0.toArray) (hi : IntsAre vs0 ns) (hlen : ns.length ≤ 63) (hE : PassesOwn (model PySem.Challenge.rw_aa5008_01.prog w) (ktrTop dp un gd (Str.ofString "law") (lawScope w) L fa ccd [] outer) (envOf (Str.ofString "law") (lawScope w) L fa ccd) E) {pv low : Int} {xsA unA gvA : Addr} {vs uvs : List Value} {us : List Int} (hf : Fit pv low) (hJ : L2J w pv low xsA unA gvA vs uvs us us.length m news) (h5 : us.length ≤ 5)
    (hcont : ∀ h' tk' m' nf rwA rvs rs kv tv lv, Fr h₀ L h' m' → News h₀ L h' nf → EndAt w pv low us.sum rwA rvs rs kv tv lv m' nf → EndOk pv us.sum rs kv tv lv →
      wpAny (model PySem.Challenge.rw_aa5008_01.prog w) (ktrTop dp un gd (Str.ofString "law") (lawScope w) L fa ccd [] outer) (execs ((lawBody w).drop 17) (envOf (Str.ofString "law") (lawScope w) L fa ccd)) Q E ⟨h', g, d, tk', o⟩) :
    wpAny (model PySem.Challenge.rw_aa5008_01.prog w) (ktrTop dp un gd (Str.ofString "law") (lawScope w) L fa ccd [] outer) (execs ((lawBody w).drop 8) (envOf (Str.ofString "law") (lawScope w) L fa ccd)) Q E ⟨h, g, d, tk, o⟩ := by
  obtain ⟨x1, gv, ⟨gn, lg⟩, ⟨tt, tot⟩, rwA, rvs, rs, rn', hrw, hrl, hral, hrok, hrsum, hrlen, hrb⟩ := hJ
  obtain ⟨⟨s1, mp⟩, ⟨s2, ml⟩, mx, mu, ⟨n1, lx⟩, ⟨n2, lu⟩, hu2, al, good⟩ := x1
  rw [List.take_length] at tot hrsum
  have hlv : vs.length = us.length := al.1
  have hlr : rvs.length = rs.length := hral.1
  have bT := sum_small (b := 200) 5 us h5 fun z hz => (good z hz).2
  have bT3 : us.sum.natAbs < 2 ^ 300 := nat_small bT (by omega)
  have bus : ∀ z ∈ us, z.natAbs < 2 ^ 280 := fun z hz => nat_small (good z hz).2 (by omega)
  have brs : ∀ r ∈ rs, r.natAbs ≤ 2 ^ 240 := fun r hr => Nat.le_trans (hrb r hr) (pow_le_of (by omega))
  have brs2 : ∀ r ∈ rs, r.natAbs < 2 ^ 280 := fun r hr => Nat.lt_of_le_of_lt (brs r hr) (Nat.pow_lt_pow_right (by decide) (by omega))
  have c1 : us.length ≤ 20 := by omega
  have c2 : rs.length ≤ 20 := by omega
  have e0 : fm low us.sum = fm low us.sum := rfl
  have e9 : us.sum = us.sum := rfl
  with_unfolding_all (conv in (execs _ _) => arg 1; whnf)
  show wpAny _ _ _ _ _ _
  (try k_fold)
  k_steps
  unfold Stop
  rename Fr _ _ _ _ => F9
  rename News _ _ _ _ => N9
  with_unfolding_all refine law_top (Q := Q) (low := low) B F9 X N9 T hd hu hL hi hlen (by (first | with_reducible exact look_here | with_reducible assumption | (simp only [ofString_eq, mapOf, String.reduceEq, ↓reduceIte] <;> first | rfl | with_reducible assumption))) (by (repeat (first | with_reducible exact Tn.zero | with_reducible refine Tn.cons ?_ | with_reducible refine Tn.app ?_))) (by (first | with_reducible exact look_here | with_reducible assumption | (simp only [ofString_eq, mapOf, String.reduceEq, ↓reduceIte] <;> first | rfl | with_reducible assumption))) (by (repeat (first | with_reducible exact Tn.zero | with_reducible refine Tn.cons ?_ | with_reducible refine Tn.app ?_))) (by (first | with_reducible exact look_here | with_reducible assumption | (simp only [ofString_eq, mapOf, String.reduceEq, ↓reduceIte] <;> first | rfl | with_reducible assumption))) (by (first | with_reducible exact look_here | with_reducible assumption | (simp only [ofString_eq, mapOf, String.reduceEq, ↓reduceIte] <;> first | rfl | with_reducible assumption))) (by (repeat (first | with_reducible assumption | with_reducible exact List.mem_cons_self | with_reducible refine List.mem_cons_of_mem _ ?_ | with_reducible refine List.mem_append_left _ ?_))) (by (repeat (first | with_reducible assumption | with_reducible apply AllT.app | with_reducible apply AllT.cons))) (by omega) ?_
  intro h' tk' m' ta' tv F8 N8 sm jt ht jl hl hcase
  have lex := (sm "exact" (by simp)).trans (by (first | with_reducible exact look_here | with_reducible assumption | (simp only [ofString_eq, mapOf, String.reduceEq, ↓reduceIte] <;> first | rfl | with_reducible assumption)))
  have ltot : m' (Str.ofString "total") = some (.int us.sum tt) := (sm "total" (by simp)).trans (by (first | with_reducible exact look_here | with_reducible assumption | (simp only [ofString_eq, mapOf, String.reduceEq, ↓reduceIte] <;> first | rfl | with_reducible assumption)))
  have lk := (sm "k" (by simp)).trans (by (first | with_reducible exact look_here | with_reducible assumption | (simp only [ofString_eq, mapOf, String.reduceEq, ↓reduceIte] <;> first | rfl | with_reducible assumption)))
  have lp : m' (Str.ofString "p") = some (.int pv s1) := (sm "p" (by simp)).trans (by (first | with_reducible exact look_here | with_reducible assumption | (simp only [ofString_eq, mapOf, String.reduceEq, ↓reduceIte] <;> first | rfl | with_reducible assumption)))
  have ll : m' (Str.ofString "low") = some (.int low s2) := (sm "low" (by simp)).trans (by (first | with_reducible exact look_here | with_reducible assumption | (simp only [ofString_eq, mapOf, String.reduceEq, ↓reduceIte] <;> first | rfl | with_reducible assumption)))
  have lr : m' (Str.ofString "rows") = some (.ref rwA) := (sm "rows" (by simp)).trans (by (first | with_reducible exact look_here | with_reducible assumption | (simp only [ofString_eq, mapOf, String.reduceEq, ↓reduceIte] <;> first | rfl | with_reducible assumption)))
  have hp0 : 0 < pv.toNat := by have := hf.p0; omega
  have hsg : (0 < us.sum ∧ sgn tv = 1) ∨ (us.sum < 0 ∧ sgn tv = -1) ∨ (us.sum = 0 ∧ sgn tv = 0) := by
    rw [← hrsum]
    rcases hcase with ⟨e1, e2⟩ | ⟨k, e1, e2⟩
    · subst e1 e2; right; right; exact ⟨rfl, rfl⟩
    · have hr := row_last (l := rs) (z := tv) (y := rs.take k) hrok.ne hrok.ap (by
        have h1 := List.take_add_one (l := rs) (i := k)
        rw [e2, ← e1, List.take_length] at h1
        exact h1)
      unfold sgn
      have h0 := hrok.ne tv (List.mem_of_getElem? e2)
      split
      · next hh => exact .inl ⟨hr.1.mpr hh, rfl⟩
      · next hh => rw [if_pos (by omega)]; right; left; exact ⟨by have := hr.2.1; have := hr.1; omega, rfl⟩
  have hlast : ∃ kv : Int, ((rvs.length : Nat) : Int) - 1 = kv ∧ -1 ≤ kv ∧ kv < rs.length ∧ LastOk pv.toNat rs us.sum kv.toNat tv 0 := by
    refine ⟨_, rfl, by omega, by omega, ?_⟩
    rcases hcase with ⟨e1, e2⟩ | ⟨k, e1, e2⟩
    · subst e1 e2
      rw [← hrsum, show (((rvs.length : Nat) : Int) - 1).toNat = 0 by rw [hlr]; rfl]
      exact LastOk.nil hp0
    · rw [← hrsum, show (((rvs.length : Nat) : Int) - 1).toNat = k by omega]
      exact LastOk.start hp0 hrok e1 e2 (brs _ (List.mem_of_getElem? e2))
  obtain ⟨kv, hkv, hk0, hk1, hlo⟩ := hlast
  rw [hkv] at lk
  show wpAny _ _ _ _ _ _
  (try k_fold)
  k_steps
  all_goals unfold Stop
  all_goals (
    with_unfolding_all refine law_W (Q := Q) (rvs := rvs) (rs := rs) (Tt := us.sum) (low := low) (n0 := kv.toNat) B (by k_asm) X (by k_asm) T hd hu hL hi hlen hE hf lp lr (by (repeat (first | with_reducible assumption | with_reducible exact List.mem_cons_self | with_reducible refine List.mem_cons_of_mem _ ?_ | with_reducible refine List.mem_append_left _ ?_))) (by (repeat (first | with_reducible assumption | with_reducible apply AllT.app | with_reducible apply AllT.cons))) hrok brs (by omega) ⟨Same.refl, sub_refl, kv, tv, 0, _, _, _, lk, rfl, hk0, hk1, jt, ht, jl, hl, hlo⟩ ?_
    intro h2' tk2' m2' nf2 kv2 tv2 lv2 ta2 la2 tk22 F7 N7 sm2 sb2 q1 q2 q3 q4 q5 q6 q7 q8 q9
    show wpAny _ _ _ _ _ _
    (try k_fold)
    (have E1 : EndAt w pv low us.sum rwA rvs rs kv2 tv2 lv2 m2' nf2 := ⟨⟨_, (sm2 "p" (by simp)).trans lp⟩, ⟨_, (sm2 "low" (by simp)).trans ll⟩, ⟨_, (sm2 "total" (by simp)).trans ltot⟩, ⟨_, (sm2 "exact" (by simp)).trans lex, Tn.mono (Tn.of_bears (by (repeat (first | with_reducible assumption | with_reducible exact Bears.here | with_reducible refine Bears.cons ?_ | with_reducible refine Bears.app ?_))) rfl) sb2⟩, (sm2 "rows" (by simp)).trans lr, ⟨_, sb2 _ (by (repeat (first | with_reducible assumption | with_reducible exact List.mem_cons_self | with_reducible refine List.mem_cons_of_mem _ ?_ | with_reducible refine List.mem_append_left _ ?_)))⟩, AllT.mono (by (repeat (first | with_reducible assumption | with_reducible apply AllT.app | with_reducible apply AllT.cons))) sb2, ⟨_, q1⟩, ⟨_, q4, q5⟩, ⟨_, q6, q7⟩⟩)
    with_unfolding_all exact hcont _ _ _ _ rwA rvs rs kv2 tv2 lv2 F7 N7 E1 ⟨hrok, brs, by omega, q2, q3, q8, q9, bT3⟩)
end Mine

-- C21
set_option maxRecDepth 100000
namespace Mine
open PySem PySem.W PyProof.Rows PySem.Spec PySem.Calls
local macro_rules | `(tactic| walk_at "never 0") => `(tactic| fail "never")
local macro_rules | `(tactic| walk_at "never 1") => `(tactic| fail "never")
local macro_rules | `(tactic| walk_at "never 2") => `(tactic| fail "never")
-- the walk's own lines: each step's token and heap named anew
local macro_rules | `(tactic| walk_at "binaryOp Add int int") => `(tactic| (with_reducible refine add_T ?_; intro _ _))
local macro_rules | `(tactic| walk_at "binaryOp Sub int int") => `(tactic| (with_reducible refine sub_T ?_; intro _ _))
local macro_rules | `(tactic| walk_at "binaryOp BitAnd int int") => `(tactic| (with_reducible refine and_T ?_; intro _ _))
local macro_rules | `(tactic| walk_at "binaryOp BitXor int int") => `(tactic| (with_reducible refine xor_T ?_; intro _ _))
local macro_rules | `(tactic| walk_at "inplaceOp Add int int") => `(tactic| (with_reducible refine iadd_T ?_; intro _ _))
local macro_rules | `(tactic| walk_at "inplaceOp Sub int int") => `(tactic| (with_reducible refine isub_T ?_; intro _ _))
local macro_rules | `(tactic| walk_at "inplaceOp BitXor int int") => `(tactic| (with_reducible refine ixor_T ?_; intro _ _))
local macro_rules | `(tactic| walk_at "binaryOp RShift int int") => `(tactic| ((with_reducible refine rsh_T ?_ ?_); omega; intro _ _))
local macro_rules | `(tactic| walk_at "inplaceOp RShift int int") => `(tactic| ((with_reducible refine irsh_T ?_ ?_); omega; intro _ _))
local macro_rules | `(tactic| walk_at "binaryOp LShift int int") => `(tactic| ((with_reducible refine lsh_T ?_ ?_ ?_); omega; (try simp only [bits_one]); omega; intro _ _))
local macro_rules | `(tactic| walk_at "inplaceOp LShift int int") => `(tactic| ((with_reducible refine ilsh_T ?_ ?_ ?_); omega; (try simp only [bits_one]); omega; intro _ _))
local macro_rules | `(tactic| walk_at "unaryOp USub int") => `(tactic| (with_reducible refine neg_T ?_; intro _ _))
local macro_rules | `(tactic| walk_at "call builtin:int.bit_length") => `(tactic| (with_reducible refine bits_T ?_; intro _ _))
local macro_rules | `(tactic| walk_at "eval Constant int") => `(tactic| (with_reducible refine const_T ?_; intro _ _))
local macro_rules | `(tactic| walk_at "storeName") => `(tactic| (k_here; k_dflt (refine' store_T ?F ?N ?_ ?a ?b; (case F => k_asm); (case N => k_asm); (case a => rfl); (case b => rfl); k_whole); intro h' tk' F' N'; (try k_sweep)))
local macro_rules | `(tactic| walk_at "newTuple") => `(tactic| (k_here; k_dflt (refine' tuple_T ?F ?N ?s ?_; (case F => k_asm); (case N => k_asm); (case s => decide); k_whole); intro h' r' F' N'; (try k_sweep)))
local macro_rules | `(tactic| walk_at "assign Tuple") => `(tactic| (k_here; (with_reducible show wpAny _ _ (assign (Expr.Tuple _ _ _) _ (Value.ref _)) _ _ _); k_dflt (refine' unpack_T ?B ?F ?X ?N ?a ?b ?c ?_; (case F => k_asm); (case X => k_asm); (case N => k_asm); (case B => (repeat (first | assumption | with_reducible exact Bears.here | exact finfB _ _ | exact fninfB _ _ | exact fzeroB _ _ | with_reducible refine Bears.cons ?_ | with_reducible refine Bears.app ?_))); (case a => rfl); (case b => rfl); (case c => rfl); k_whole); intro h' F' N'; (try k_sweep)))
local macro_rules | `(tactic| walk_at "ite") => `(tactic| with_reducible first
  | (refine dec_split ?_ ?_ <;> intro _) | (refine bne_split ?_ ?_ <;> intro _) | (refine beq_split ?_ ?_ <;> intro _))
local macro_rules | `(tactic| walk_at "compareOp Eq ref ref") => `(tactic| (k_here; k_dflt (first
  | (refine' eq_T ?B ?C ?F ?X ?N ?u ?_; (case F => k_asm); (case X => k_asm); (case N => k_asm); (case B => (repeat (first | assumption | with_reducible exact Bears.here | exact finfB _ _ | exact fninfB _ _ | exact fzeroB _ _ | with_reducible refine Bears.cons ?_ | with_reducible refine Bears.app ?_))); (case C => (repeat (first | assumption | with_reducible exact Bears.here | exact finfB _ _ | exact fninfB _ _ | exact fzeroB _ _ | with_reducible refine Bears.cons ?_ | with_reducible refine Bears.app ?_))); (case u => ((try dsimp only [Around.deeper, Around.in1, ktrTop]); omega)); k_whole)
  | (refine' eqL_T ?B ?C ?F ?X ?N ?u ?_; (case F => k_asm); (case X => k_asm); (case N => k_asm); (case B => (repeat (first | assumption | with_reducible exact Bears.here | exact finfB _ _ | exact fninfB _ _ | exact fzeroB _ _ | with_reducible refine Bears.cons ?_ | with_reducible refine Bears.app ?_))); (case C => (repeat (first | assumption | with_reducible exact Bears.here | exact finfB _ _ | exact fninfB _ _ | exact fzeroB _ _ | with_reducible refine Bears.cons ?_ | with_reducible refine Bears.app ?_))); (case u => ((try dsimp only [Around.deeper, Around.in1, ktrTop]); omega)); k_whole))))
local macro_rules | `(tactic| walk_at "compareOp NotEq ref ref") => `(tactic| (k_here; k_dflt (refine' ne_T ?B ?C ?F ?X ?N ?u ?_; (case F => k_asm); (case X => k_asm); (case N => k_asm); (case B => (repeat (first | assumption | with_reducible exact Bears.here | exact finfB _ _ | exact fninfB _ _ | exact fzeroB _ _ | with_reducible refine Bears.cons ?_ | with_reducible refine Bears.app ?_))); (case C => (repeat (first | assumption | with_reducible exact Bears.here | exact finfB _ _ | exact fninfB _ _ | exact fzeroB _ _ | with_reducible refine Bears.cons ?_ | with_reducible refine Bears.app ?_))); (case u => ((try dsimp only [Around.deeper, Around.in1, ktrTop]); omega)); k_whole)))
local macro_rules | `(tactic| walk_at "subscriptTail") => `(tactic| (k_here; (with_reducible show wpAny _ _ (subscriptTail _ _ (Value.ref _) (Value.int _ _)) _ _ _); k_dflt (refine' item_T ?B ?F ?X ?N ?i ?x ?_ ?s; (case F => k_asm); (case X => k_asm); (case N => k_asm); (case B => (repeat (first | assumption | with_reducible exact Bears.here | exact finfB _ _ | exact fninfB _ _ | exact fzeroB _ _ | with_reducible refine Bears.cons ?_ | with_reducible refine Bears.app ?_))); (case i => omega); (case x => rfl); (case s => with_unfolding_all rfl); k_whole)))
local macro_rules | `(tactic| walk_at "binaryOp Pow int int") => `(tactic| ((with_reducible refine pow_T ?_ ?_ ?_ ?_); omega; omega; omega; intro _ _))
local macro_rules | `(tactic| walk_at "ite") => `(tactic| with_reducible first
  | (refine eqb_tt (by assumption) ?_) | (refine eqb_ff (by assumption) ?_) | (refine eqb_ff_e (by (dsimp only; omega)) ?_))
local macro_rules | `(tactic| walk_at "ite") => `(tactic| with_reducible first
  | (refine dec_tt (by omega) ?_) | (refine dec_ff (by omega) ?_) | (refine bne_tt (by omega) ?_) | (refine bne_ff (by omega) ?_) | (refine beq_tt (by omega) ?_) | (refine beq_ff (by omega) ?_) | (refine not_ite ?_))
local macro_rules | `(tactic| walk_at "eval Name") => `(tactic| (k_here; k_dflt (refine' name_G ?F ?X ?T ?e ?_ ?a ?b ?c; (case F => k_asm); (case X => k_asm); (case T => k_asm); (case e => k_is); (case b => kernel_rfl);  (case a => rfl); (case c => kernel_rfl); k_whole)))
local macro_rules | `(tactic| walk_at "eval Name") => `(tactic| (k_here; k_dflt (refine' name_T ?F ?v ?_ ?a ?b ?c; (case F => k_asm); (case v => (first | with_reducible exact look_here | with_reducible assumption | (simp only [ofString_eq, mapOf, String.reduceEq, ↓reduceIte] <;> first | rfl | with_reducible assumption))); (case b => kernel_rfl); (case a => rfl); (case c => kernel_rfl); k_whole)))
local macro_rules | `(tactic| walk_at "loadName") => `(tactic| (k_here; k_dflt (refine' loadn_T ?F ?v ?_ ?a ?b; (case F => k_asm); (case v => (first | with_reducible exact look_here | with_reducible assumption | (simp only [ofString_eq, mapOf, String.reduceEq, ↓reduceIte] <;> first | rfl | with_reducible assumption))); (case b => kernel_rfl); (case a => rfl); k_whole)))
local macro_rules | `(tactic| walk_at "exec If") => `(tactic| with_reducible refine wpAny_If ?_)
local macro_rules | `(tactic| walk_at "exec For Name Name cons nil") => `(tactic| (refine Stop.intro ?_))
local macro_rules | `(tactic| walk_at "exec For Name Call cons nil") => `(tactic| (refine Stop.intro ?_))
local macro_rules | `(tactic| walk_at "exec While Compare cons nil") => `(tactic| (refine Stop.intro ?_))
local macro_rules | `(tactic| walk_at "exec While BoolOp cons nil") => `(tactic| (refine Stop.intro ?_))
local macro_rules | `(tactic| walk_at "call builtin:isinstance") => `(tactic| (k_here; (with_reducible show wpAny _ _ (call (Value.builtin "isinstance") [Value.ref _, Value.type "tuple"]) _ _ _); k_dflt (refine' isi_T ?B ?F ?X ?N ?_; (case F => k_asm); (case X => k_asm); (case N => k_asm); (case B => (repeat (first | assumption | with_reducible exact Bears.here | exact finfB _ _ | exact fninfB _ _ | exact fzeroB _ _ | with_reducible refine Bears.cons ?_ | with_reducible refine Bears.app ?_))); k_whole)))
local macro_rules | `(tactic| walk_at "call builtin:len") => `(tactic| (k_here; (with_reducible show wpAny _ _ (call (Value.builtin "len") [Value.ref _]) _ _ _); k_dflt (refine' len_T ?B ?F ?X ?N ?_; (case F => k_asm); (case X => k_asm); (case N => k_asm); (case B => (repeat (first | assumption | with_reducible exact Bears.here | exact finfB _ _ | exact fninfB _ _ | exact fzeroB _ _ | with_reducible refine Bears.cons ?_ | with_reducible refine Bears.app ?_))); k_whole); intro _ _))
local macro_rules | `(tactic| walk_at "call builtin:divmod") => `(tactic| (k_here; k_dflt (refine' divmod_T ?F ?N ?b ?p ?_; (case F => k_asm); (case N => k_asm); (case b => first | with_reducible assumption | omega); (case p => with_reducible assumption); k_whole); intro h' r' t1' t2' tk' F' N'; (try k_sweep)))
local macro_rules | `(tactic| walk_at "inplaceOp FloorDiv int int") => `(tactic| ((with_reducible refine ifdiv_T ?_ ?_ ?_); decide; decide +kernel; intro _ _))
local macro_rules | `(tactic| walk_at "binaryOp Mod int int") => `(tactic| ((with_reducible refine mod_T ?_ ?_); omega; intro _ _))
local macro_rules | `(tactic| walk_at "subscriptTail") => `(tactic| (k_here; (with_reducible show wpAny _ _ (subscriptTail _ _ (Value.ref _) (Value.int _ _)) _ _ _); k_dflt (refine' litem_T ?M ?N ?a ?b ?x ?_ ?s; (case N => k_asm); (case M => (repeat (first | with_reducible assumption | with_reducible exact List.mem_cons_self | with_reducible refine List.mem_cons_of_mem _ ?_ | with_reducible refine List.mem_append_left _ ?_ | (refine Kept.oth (by with_reducible assumption) _ ?_ ?_; rotate_left; with_reducible assumption)))); (case a => omega); (case b => omega); (case x => with_reducible assumption); (case s => with_unfolding_all rfl); k_whole)))
local macro_rules | `(tactic| walk_at "subscriptTail") => `(tactic| (k_here; (with_reducible show wpAny _ _ (subscriptTail _ _ (Value.ref _) (Value.int (-1) _)) _ _ _); k_dflt (refine' litemN_T ?M ?N ?a ?b ?x ?_ ?s; (case N => k_asm); (case M => (repeat (first | with_reducible assumption | with_reducible exact List.mem_cons_self | with_reducible refine List.mem_cons_of_mem _ ?_ | with_reducible refine List.mem_append_left _ ?_ | (refine Kept.oth (by with_reducible assumption) _ ?_ ?_; rotate_left; with_reducible assumption)))); (case a => rfl); (case b => omega); (case x => with_reducible assumption); (case s => with_unfolding_all rfl); k_whole)))
local macro_rules | `(tactic| walk_at "truthy ref") => `(tactic| (k_here; k_dflt (refine' ltruthy_T ?M ?N ?z ?_; (case N => k_asm); (case M => (repeat (first | with_reducible assumption | with_reducible exact List.mem_cons_self | with_reducible refine List.mem_cons_of_mem _ ?_ | with_reducible refine List.mem_append_left _ ?_ | (refine Kept.oth (by with_reducible assumption) _ ?_ ?_; rotate_left; with_reducible assumption)))); (case z => first | omega | (simp only [List.length_append, List.length_cons, List.length_nil]; omega)); k_whole); intro _))
local macro_rules | `(tactic| walk_at "call builtin:len") => `(tactic| (k_here; (with_reducible show wpAny _ _ (call (Value.builtin "len") [Value.ref _]) _ _ _); k_dflt (refine' llen_T ?M ?N ?z ?_; (case N => k_asm); (case M => (repeat (first | with_reducible assumption | with_reducible exact List.mem_cons_self | with_reducible refine List.mem_cons_of_mem _ ?_ | with_reducible refine List.mem_append_left _ ?_ | (refine Kept.oth (by with_reducible assumption) _ ?_ ?_; rotate_left; with_reducible assumption)))); (case z => first | omega | (simp only [List.length_append, List.length_cons, List.length_nil]; omega)); k_whole); intro _ _))
local macro_rules | `(tactic| walk_at "call builtin:list.append") => `(tactic| (k_here; (with_reducible show wpAny _ _ (call (Value.builtin _) [Value.ref _, _]) _ _ _); k_dflt (refine' append_T (w := _) ?M ?F ?N ?z ?_; (case F => k_asm); (case N => k_asm); (case M => (repeat (first | with_reducible assumption | with_reducible exact List.mem_cons_self | with_reducible refine List.mem_cons_of_mem _ ?_ | with_reducible refine List.mem_append_left _ ?_ | (refine Kept.oth (by with_reducible assumption) _ ?_ ?_; rotate_left; with_reducible assumption)))); (case z => first | omega | (simp only [List.length_append, List.length_cons, List.length_nil]; omega))); intro h' nw' F' N' hin' hk'; (try k_sweep)))
local macro_rules | `(tactic| walk_at "call type:list") => `(tactic| (k_here; (with_reducible show wpAny _ _ (call (Value.type _) [Value.ref _]) _ _ _); k_dflt (refine' lcopy_T ?M ?F ?N ?z ?_; (case F => k_asm); (case N => k_asm); (case M => (repeat (first | with_reducible assumption | with_reducible exact List.mem_cons_self | with_reducible refine List.mem_cons_of_mem _ ?_ | with_reducible refine List.mem_append_left _ ?_ | (refine Kept.oth (by with_reducible assumption) _ ?_ ?_; rotate_left; with_reducible assumption)))); (case z => first | omega | (simp only [List.length_append, List.length_cons, List.length_nil]; omega)); k_whole); intro h' D' c' F' N' hne'; (try k_sweep)))
local macro_rules | `(tactic| walk_at "newList") => `(tactic| (k_here; k_dflt (refine' newlist_T ?F ?N ?_; (case F => k_asm); (case N => k_asm); k_whole); intro h' D' F' N' hne'; (try k_sweep)))
local macro_rules | `(tactic| walk_at "subscriptTail") => `(tactic| (k_here; (with_reducible show wpAny _ _ (subscriptTail _ _ (Value.ref _) (Value.ref _)) _ _ _); k_dflt (with_unfolding_all refine' slice_T ?M ?F ?N ?a ?z ?_ ?s ?t; (case F => k_asm); (case N => k_asm); (case M => (repeat (first | with_reducible assumption | with_reducible exact List.mem_cons_self | with_reducible refine List.mem_cons_of_mem _ ?_ | with_reducible refine List.mem_append_left _ ?_ | (refine Kept.oth (by with_reducible assumption) _ ?_ ?_; rotate_left; with_reducible assumption)))); (case a => omega); (case z => first | omega | (simp only [List.length_append, List.length_cons, List.length_nil]; omega)); (case s => with_unfolding_all rfl); (case t => intro _; with_unfolding_all rfl); k_whole); intro h' D' F' N' hne'; (try k_sweep)))
local macro_rules | `(tactic| walk_at "call ref") => `(tactic| (k_here; (with_reducible show wpAny _ _ (call (Value.ref 121) _) _ _ _); k_dflt (refine' DrawGives.use (g_draw _ _ _ _ _ _ _ ?hi ?hl ?i0 ?i1 ?n0 ?n1) ?hL ?B ?F ?X ?N ?T ?hk ?hd ?hu ?_; (case hL => k_asm); (case hi => first | k_asm | exact Hid.un (by with_reducible assumption)); (case hl => with_reducible assumption); (case i0 => omega); (case i1 => omega); (case n0 => omega); (case n1 => omega); (case B => k_asm); (case F => k_asm); (case X => k_asm); (case N => k_asm); (case T => k_asm); (case hk => rfl); (case hd => ((try dsimp only [Around.deeper, Around.in1, ktrTop]); omega)); (case hu => ((try dsimp only [Around.deeper, Around.in1, ktrTop]); omega)); k_whole); intro k' t' h' tk' F' N' hk1' hk2'; (try dsimp only); (try k_sweep)))
local macro_rules | `(tactic| walk_at "getMethod ref") => `(tactic| (k_here; (with_reducible show wpAny _ _ (getMethod (Value.ref _) (Str.ofString "append") _) _ _ _); k_dflt (refine' methA_T ?M ?N ?_; (case N => k_asm); (case M => (repeat (first | with_reducible assumption | with_reducible exact List.mem_cons_self | with_reducible refine List.mem_cons_of_mem _ ?_ | with_reducible refine List.mem_append_left _ ?_ | (refine Kept.oth (by with_reducible assumption) _ ?_ ?_; rotate_left; with_reducible assumption)))); k_whole)))
local macro_rules | `(tactic| walk_at "binaryOp Mult int int") => `(tactic| ((with_reducible refine mul_T ?_ ?_); intro _ _; rotate_left; first | exact IntMulOk.of_left (by decide) | exact mulOk_small (by omega) (by omega)))
local macro_rules | `(tactic| walk_at "binaryOp Mod int int") => `(tactic| ((with_reducible refine modP_T ?_ ?_); (first | omega | with_reducible assumption); intro r' _ _ hr' hr1' hr2'))

local macro_rules | `(tactic| walk_at "call type:range") => `(tactic| (k_here; (with_reducible show wpAny _ _ (call (Value.type "range") [Value.int _ _]) _ _ _); k_dflt (refine' range1_T ?F ?N ?_; (case F => k_asm); (case N => k_asm); k_whole); intro h' r' tk' t1' u1' v1' R' F' N'; (try k_sweep)))
local macro_rules | `(tactic| walk_at "call type:range") => `(tactic| (k_here; (with_reducible show wpAny _ _ (call (Value.type "range") [Value.int _ _, Value.int _ _]) _ _ _); k_dflt (refine' range2_T ?F ?N ?_; (case F => k_asm); (case N => k_asm); k_whole); intro h' r' tk' t1' u1' v1' R' F' N'; (try k_sweep)))
local macro_rules | `(tactic| walk_at "pyIter ref") => `(tactic| (refine Stop.intro ?_))
local macro_rules | `(tactic| walk_at "assign Tuple") => `(tactic| (k_here; (with_reducible show wpAny _ _ (assign (Expr.Tuple [_, _] _ _) _ (Value.ref _)) _ _ _); k_dflt (refine' unpack2_T ?B ?F ?X ?N ?a ?b ?c ?_; (case F => k_asm); (case X => k_asm); (case N => k_asm); (case B => (repeat (first | with_reducible assumption | with_reducible exact Bears.here | with_reducible refine Bears.cons ?_ | with_reducible refine Bears.app ?_))); (case a => rfl); (case b => rfl); (case c => rfl); k_whole); intro h' F' N'; (try k_sweep)))
local macro_rules | `(tactic| walk_at "compareOp NotEq ref ref") => `(tactic| (k_here; k_dflt (refine' lne_T ?M ?C ?A ?F ?X ?N ?u ?_; (case F => k_asm); (case X => k_asm); (case N => k_asm); (case M => (repeat (first | with_reducible assumption | with_reducible exact List.mem_cons_self | with_reducible refine List.mem_cons_of_mem _ ?_ | with_reducible refine List.mem_append_left _ ?_))); (case C => (repeat (first | with_reducible assumption | with_reducible exact List.mem_cons_self | with_reducible refine List.mem_cons_of_mem _ ?_ | with_reducible refine List.mem_append_left _ ?_))); (case A => (repeat (first | with_reducible assumption | with_reducible apply AllT.app | with_reducible apply AllT.cons))); (case u => ((try dsimp only [Around.deeper, Around.in1, ktrTop]); omega)); k_whole)))
local macro_rules | `(tactic| walk_at "call ref") => `(tactic| (k_here; (with_reducible show wpAny _ _ (call (Value.ref 128) _) _ _ _); k_dflt (refine' MGives.useP (w_form ?ta ?fa ?ra ?rb) ?B ?F ?X ?N ?T ?hk ?hd ?hu ?_; (case B => k_asm); (case F => k_asm); (case X => k_asm); (case N => k_asm); (case T => k_asm); (case hk => rfl); (case hd => ((try dsimp only [Around.deeper, Around.in1, ktrTop]); omega)); (case hu => ((try dsimp only [Around.deeper, Around.in1, ktrTop]); omega)); (case ta => first | with_reducible assumption | exact Tn.of_bears (by (repeat (first | with_reducible assumption | with_reducible exact Bears.here | with_reducible refine Bears.cons ?_ | with_reducible refine Bears.app ?_))) rfl); (case fa => with_reducible assumption); (case ra => with_reducible assumption); (case rb => with_reducible assumption); k_whole); intro r' h' tk' F' N' ho'; refine Exists.elim ho' ?_; clear ho'; intro t' e'; subst e'; (try dsimp only); (try k_sweep)))
local macro_rules | `(tactic| walk_at "call ref") => `(tactic| (k_here; (with_reducible show wpAny _ _ (call (Value.ref 83) _) _ _ _); k_dflt (refine' MGives.useP (w_sign ?ta) ?B ?F ?X ?N ?T ?hk ?hd ?hu ?_; (case B => k_asm); (case F => k_asm); (case X => k_asm); (case N => k_asm); (case T => k_asm); (case hk => rfl); (case hd => ((try dsimp only [Around.deeper, Around.in1, ktrTop]); omega)); (case hu => ((try dsimp only [Around.deeper, Around.in1, ktrTop]); omega)); (case ta => first | with_reducible assumption | exact Tn.of_bears (by (repeat (first | with_reducible assumption | with_reducible exact Bears.here | with_reducible refine Bears.cons ?_ | with_reducible refine Bears.app ?_))) rfl); k_whole); intro r' h' tk' F' N' ho'; refine Exists.elim ho' ?_; clear ho'; intro t' e'; subst e'; (try dsimp only); (try k_sweep)))
local macro_rules | `(tactic| walk_at "call ref") => `(tactic| (k_here; (with_reducible show wpAny _ _ (call (Value.ref 142) _) _ _ _); k_dflt (refine' MGives.use (w_near ?fa ?ra) ?B ?F ?X ?N ?T ?hk ?hd ?hu ?_ ?mo; (case B => k_asm); (case F => k_asm); (case X => k_asm); (case N => k_asm); (case T => k_asm); (case hk => rfl); (case hd => ((try dsimp only [Around.deeper, Around.in1, ktrTop]); omega)); (case hu => ((try dsimp only [Around.deeper, Around.in1, ktrTop]); omega)); (case mo => exact fun _ _ _ hs ht => Tn.mono ht hs); (case fa => with_reducible assumption); (case ra => with_reducible assumption); k_whole); intro r' tl' h' tk' F' N' ho'; (obtain ⟨a', k1', k2', k3', k4', n', e', hB'⟩ := ho'); subst e'; (try dsimp only); (try k_sweep)))
local macro_rules | `(tactic| walk_at "call ref") => `(tactic| (k_here; (with_reducible show wpAny _ _ (call (Value.ref 60) _) _ _ _); k_dflt (refine' MGives.use (w_pos ?ta ?fa ?ra) ?B ?F ?X ?N ?T ?hk ?hd ?hu ?_ ?mo; (case B => k_asm); (case F => k_asm); (case X => k_asm); (case N => k_asm); (case T => k_asm); (case hk => rfl); (case hd => ((try dsimp only [Around.deeper, Around.in1, ktrTop]); omega)); (case hu => ((try dsimp only [Around.deeper, Around.in1, ktrTop]); omega)); (case mo => exact fun _ _ _ hs ht => Tn.mono ht hs); (case ta => first | with_reducible assumption | exact Tn.of_bears (by (repeat (first | with_reducible assumption | with_reducible exact Bears.here | with_reducible refine Bears.cons ?_ | with_reducible refine Bears.app ?_))) rfl); (case fa => with_reducible assumption); (case ra => with_reducible assumption); k_whole); intro r' tl' h' tk' F' N' ho'; (obtain ⟨a', k1', k2', k3', k4', n', e', hB'⟩ := ho'); subst e'; (try dsimp only); (try k_sweep)))
local macro_rules | `(tactic| walk_at "call ref") => `(tactic| (k_here; (with_reducible show wpAny _ _ (call (Value.ref 114) _) _ _ _); k_dflt (refine' MGives.use (w_shift1 ?ta) ?B ?F ?X ?N ?T ?hk ?hd ?hu ?_ ?mo; (case B => k_asm); (case F => k_asm); (case X => k_asm); (case N => k_asm); (case T => k_asm); (case hk => rfl); (case hd => ((try dsimp only [Around.deeper, Around.in1, ktrTop]); omega)); (case hu => ((try dsimp only [Around.deeper, Around.in1, ktrTop]); omega)); (case mo => exact fun _ _ _ hs ht => Tn.mono ht hs); (case ta => first | with_reducible assumption | exact Tn.of_bears (by (repeat (first | with_reducible assumption | with_reducible exact Bears.here | with_reducible refine Bears.cons ?_ | with_reducible refine Bears.app ?_))) rfl); k_whole); intro r' tl' h' tk' F' N' ho'; (obtain ⟨a', k1', k2', k3', k4', n', e', hB'⟩ := ho'); subst e'; (try dsimp only); (try k_sweep)))
local macro_rules | `(tactic| walk_at "call ref") => `(tactic| (k_here; (with_reducible show wpAny _ _ (call (Value.ref 91) _) _ _ _); k_dflt (refine' MGives.use (w_add ?ta ?tb ?fa ?oa ?ra ?rb) ?B ?F ?X ?N ?T ?hk ?hd ?hu ?_ ?mo; (case B => k_asm); (case F => k_asm); (case X => k_asm); (case N => k_asm); (case T => k_asm); (case hk => rfl); (case hd => ((try dsimp only [Around.deeper, Around.in1, ktrTop]); omega)); (case hu => ((try dsimp only [Around.deeper, Around.in1, ktrTop]); omega)); (case mo => exact fun _ _ _ hs ht => Tn.mono ht hs); (case ta => first | with_reducible assumption | exact Tn.of_bears (by (repeat (first | with_reducible assumption | with_reducible exact Bears.here | with_reducible refine Bears.cons ?_ | with_reducible refine Bears.app ?_))) rfl); (case tb => first | with_reducible assumption | exact Tn.of_bears (by (repeat (first | with_reducible assumption | with_reducible exact Bears.here | with_reducible refine Bears.cons ?_ | with_reducible refine Bears.app ?_))) rfl); (case fa => with_reducible assumption); (case oa => first | exact Or.inl (by with_reducible assumption) | exact Or.inr (by with_reducible assumption)); (case ra => with_reducible assumption); (case rb => with_reducible assumption); k_whole); intro r' tl' h' tk' F' N' ho'; (obtain ⟨a', k1', k2', k3', k4', n', e', hB'⟩ := ho'); subst e'; (try dsimp only); (try k_sweep)))
local macro_rules | `(tactic| walk_at "call ref") => `(tactic| (k_here; (with_reducible show wpAny _ _ (call (Value.ref 99) _) _ _ _); k_dflt (refine' MGives.use (w_sub ?ta ?tb ?fa ?oa ?ra ?rb) ?B ?F ?X ?N ?T ?hk ?hd ?hu ?_ ?mo; (case B => k_asm); (case F => k_asm); (case X => k_asm); (case N => k_asm); (case T => k_asm); (case hk => rfl); (case hd => ((try dsimp only [Around.deeper, Around.in1, ktrTop]); omega)); (case hu => ((try dsimp only [Around.deeper, Around.in1, ktrTop]); omega)); (case mo => exact fun _ _ _ hs ht => Tn.mono ht hs); (case ta => first | with_reducible assumption | exact Tn.of_bears (by (repeat (first | with_reducible assumption | with_reducible exact Bears.here | with_reducible refine Bears.cons ?_ | with_reducible refine Bears.app ?_))) rfl); (case tb => first | with_reducible assumption | exact Tn.of_bears (by (repeat (first | with_reducible assumption | with_reducible exact Bears.here | with_reducible refine Bears.cons ?_ | with_reducible refine Bears.app ?_))) rfl); (case fa => with_reducible assumption); (case oa => first | exact Or.inl (by with_reducible assumption) | exact Or.inr (by with_reducible assumption)); (case ra => with_reducible assumption); (case rb => with_reducible assumption); k_whole); intro r' tl' h' tk' F' N' ho'; (obtain ⟨a', k1', k2', k3', k4', n', e', hB'⟩ := ho'); subst e'; (try dsimp only); (try k_sweep)))
theorem fill_C21 (w : World) : True := by
  refine fill_K w ?_
  k_fill
  intro _ _
  trivial

theorem sgn_iff {a b : Int} (ha : a ≠ 0) (hb : b ≠ 0) : sgn a = sgn b ↔ (0 < a ↔ 0 < b) := by
  unfold sgn
  split <;> split <;> (try split) <;> (try split) <;> omega
set_option maxHeartbeats 40000000 in
theorem law_d {w : World} {fa : Addr} {p : Program} {loose : List Str} {mean : ExcName → Option Value} {mg mb : Str → Option Value} {dp un : Nat} {gd : Option (List Code)} {ccd : Value} {outer : List Env} {A₀ : Around} {base h₀ : Heap} {L : Addr} {m : Str → Option Value} {news : List (Addr × Obj)} {Q : Flow → Shared → Prop} {E : Value → Shared → Prop} {h : Heap} {g : Array GenState} {d : Drawn} {tk : Nat} {o : OsState} {l : Addr} {vs0 : List Value} {ns : List Int} (B : Below A₀ base outer h₀) (F : Fr h₀ L h m) (X : (Mine.hd.heap_39 w.params).In h₀) (N : News h₀ L h news) (T : Top p loose mean mg mb h₀) (hd : dp + 40 < recursionLimit) (hu : un + 400 < cLine) (hL : base.IsList l vs0.toArray) (hi : IntsAre vs0 ns) (hlen : ns.length ≤ 63) {pv low Tt kv tv lv : Int} {rwA : Addr} {rvs : List Value} {rs : List Int} (hf : Fit pv low) (hA : EndAt w pv low Tt rwA rvs rs kv tv lv m news) (hO : EndOk pv Tt rs kv tv lv)
    (hQ : ∀ h' tk' m' nf, Fr h₀ L h' m' → News h₀ L h' nf → Q (.ret (.bool true)) ⟨h', g, d, tk', o⟩) :
    wpAny (model PySem.Challenge.rw_aa5008_01.prog w) (ktrTop dp un gd (Str.ofString "law") (lawScope w) L fa ccd [] outer) (execs ((lawBody w).drop 17) (envOf (Str.ofString "law") (lawScope w) L fa ccd)) Q E ⟨h, g, d, tk, o⟩ := by
  obtain ⟨⟨t1, mp⟩, ⟨t2, ml⟩, ⟨t3, mtot⟩, ⟨ea, mex, ea', x1, x2, x3, x4, xn, er, be⟩, mrw, ⟨rn', lr⟩, hal, ⟨t4, mk⟩, ⟨ta, mt, ta', y1, y2, y3, y4, yn, er2, bt⟩, ⟨la, mlo, la', z1, z2, z3, z4, zn, er3, bl'⟩⟩ := hA
  cases er
  cases er2
  cases er3
  obtain ⟨ok, brs, hlr, k0, k1, lo, out, bT⟩ := hO
  have hp0 : 0 < pv.toNat := by have := hf.p0; omega
  have zl := (fm_is low lv).v0
  have rt := lo.rt
  have bt3 : tv.natAbs < 2 ^ 300 := Nat.lt_of_le_of_lt lo.bt (Nat.pow_lt_pow_right (by decide) (by omega))
  have bt2 : tv.natAbs < 2 ^ 250 := Nat.lt_of_le_of_lt lo.bt (Nat.pow_lt_pow_right (by decide) (by omega))
  have bl2 : (2 * lv).natAbs < 2 ^ 250 := by
    have := lo.btl
    have h2 : 2 ^ 250 = 2 ^ 240 * 2 ^ 10 := by rw [← Nat.pow_add]
    have h3 : 2 ^ 10 = 1024 := rfl
    have h4 := Nat.two_pow_pos 240
    rw [h2, h3]
    generalize 2 ^ 240 = W at *
    omega
  have bl3 : (2 * lv).natAbs < 2 ^ 300 := nat_small bl2 (by omega)
  have bM : (RN pv.toNat (tv + 2 * lv)).natAbs < 2 ^ 300 := nat_small (RN_small hp0 (add_small bt2 bl2)) (by omega)
  have rM : Rep pv.toNat (RN pv.toNat (tv + 2 * lv)) := RN_rep hp0
  by_cases hkl : 0 < kv ∧ lv ≠ 0
  · obtain ⟨hk, hl⟩ := hkl
    have hm0 : (fm low lv).m ≠ 0 := fun h9 => hl (zl.mp h9)
    obtain ⟨k, hkk⟩ : ∃ k : Nat, kv = (k : Int) + 1 := ⟨(kv - 1).toNat, by omega⟩
    have hkl : k < rs.length := by omega
    have hlen2 : rvs.length = rs.length := hal.1
    have g1 : rvs[k]? = some rvs[k] := by simp [hlen2, hkl]
    have g2 : rs[k]? = some rs[k] := by simp [hkl]
    obtain ⟨ya, w1, w2, w3, w4, wn, er3, by'⟩ := hal.2 k _ _ g1 g2
    rw [er3] at g1
    have hx : rvs[(kv - 1).toNat]? = some (.ref ya) := by rw [show (kv - 1).toNat = k by omega]; exact g1
    rw [show kv.toNat = k + 1 by omega] at lo
    obtain ⟨la1, la2⟩ := lo.last hp0 ok hl g2
    have hy0 := ok.ne _ (List.getElem_mem hkl)
    have hsg := sgn_iff hl hy0
    generalize rs[k] = y at *
    by_cases hs : sgn lv = sgn y
    · obtain ⟨la3, la4⟩ := la1 (hsg.mp hs)
      by_cases hm : RN pv.toNat (RN pv.toNat (tv + 2 * lv) - tv) = 2 * lv
      · have hmf : fm low (RN pv.toNat (RN pv.toNat (tv + 2 * lv) - tv)) = fm low (2 * lv) := by rw [hm]
        have hz := la3 hm
        have hz1 : fm low (RN pv.toNat (tv + 2 * lv)) = fm low (RN pv.toNat Tt) := by rw [hz]
        show wpAny _ _ _ _ _ _
        (try k_fold)
        k_steps
        all_goals (rw [T4.eqb_iff.mpr hz1.symm]; exact hQ _ _ _ _ (by k_asm) (by k_asm))
      · have hmf : fm low (RN pv.toNat (RN pv.toNat (tv + 2 * lv) - tv)) ≠ fm low (2 * lv) := fun h9 => hm (fm_inj h9)
        have hz := la4 hm
        have hz1 : fm low tv = fm low (RN pv.toNat Tt) := by rw [hz]
        show wpAny _ _ _ _ _ _
        (try k_fold)
        k_steps
        all_goals (rw [T4.eqb_iff.mpr hz1.symm]; exact hQ _ _ _ _ (by k_asm) (by k_asm))
    · have hz := la2 (fun h9 => hs (hsg.mpr h9))
      have hz1 : fm low tv = fm low (RN pv.toNat Tt) := by rw [hz]
      show wpAny _ _ _ _ _ _
      (try k_fold)
      k_steps
      all_goals (rw [T4.eqb_iff.mpr hz1.symm]; exact hQ _ _ _ _ (by k_asm) (by k_asm))
  · have hz : RN pv.toNat Tt = tv := by
      have : kv.toNat = 0 := by omega
      rw [this] at lo
      exact lo.done0
    have hz1 : fm low tv = fm low (RN pv.toNat Tt) := by rw [hz]
    by_cases hl : lv = 0
    · have hm0 : (fm low lv).m = 0 := zl.mpr hl
      show wpAny _ _ _ _ _ _
      (try k_fold)
      k_steps
      all_goals (rw [T4.eqb_iff.mpr hz1.symm]; exact hQ _ _ _ _ (by k_asm) (by k_asm))
    · have hm0 : (fm low lv).m ≠ 0 := fun h9 => hl (zl.mp h9)
      have hk : ¬ 0 < kv := fun h9 => hkl ⟨h9, hl⟩
      show wpAny _ _ _ _ _ _
      (try k_fold)
      k_steps
      all_goals (rw [T4.eqb_iff.mpr hz1.symm]; exact hQ _ _ _ _ (by k_asm) (by k_asm))
end Mine

-- C22
set_option maxRecDepth 100000
namespace Mine
open PySem PySem.W PyProof.Rows PySem.Spec PySem.Calls
theorem law_all {w : World} {fa : Addr} {p : Program} {loose : List Str} {mean : ExcName → Option Value} {mg mb : Str → Option Value} {dp un : Nat} {gd : Option (List Code)} {ccd : Value} {outer : List Env} {A₀ : Around} {base h₀ : Heap} {L : Addr} {m : Str → Option Value} {news : List (Addr × Obj)} {Q : Flow → Shared → Prop} {E : Value → Shared → Prop} {h : Heap} {g : Array GenState} {d : Drawn} {tk : Nat} {o : OsState} {l : Addr} {vs0 : List Value} {ns : List Int} (B : Below A₀ base outer h₀) (F : Fr h₀ L h m) (X : (Mine.hd.heap_39 w.params).In h₀) (N : News h₀ L h news) (T : Top p loose mean mg mb h₀) (hd : dp + 40 < recursionLimit) (hu : un + 400 < cLine) (hL : base.IsList l vs0.toArray) (hi : IntsAre vs0 ns) (hlen : ns.length ≤ 63) (hE : PassesOwn (model PySem.Challenge.rw_aa5008_01.prog w) (ktrTop dp un gd (Str.ofString "law") (lawScope w) L fa ccd [] outer) (envOf (Str.ofString "law") (lawScope w) L fa ccd) E) (hm : m = mapOf [(Str.ofString "script", .ref l)]) (hn : news = [])
    (hQ : ∀ h' tk' m' nf, Fr h₀ L h' m' → News h₀ L h' nf → Q (.ret (.bool true)) ⟨h', g, d, tk', o⟩) :
    wpAny (model PySem.Challenge.rw_aa5008_01.prog w) (ktrTop dp un gd (Str.ofString "law") (lawScope w) L fa ccd [] outer) (execs (lawBody w) (envOf (Str.ofString "law") (lawScope w) L fa ccd)) Q E ⟨h, g, d, tk, o⟩ := by
  refine law_a B F X N T hd hu hL hi hlen hE hm hn ?_
  intro pv low xsA unA vs uvs us h1 tk1 m1 nf1 hf F1 N1 x1 a1 a2
  refine law_b B F1 X N1 T hd hu hL hi hlen hE hf x1 a1 a2 ?_
  intro gvA h2 tk2 m2 nf2 F2 N2 hJ
  refine law_c B F2 X N2 T hd hu hL hi hlen hE hf hJ a2 ?_
  intro h3 tk3 m3 nf3 rwA rvs rs kv tv lv F3 N3 hA hO
  exact law_d B F3 X N3 T hd hu hL hi hlen hf hA hO hQ
end Mine

-- CT
set_option maxRecDepth 100000
open PySem PySem.W PyProof.Rows PySem.Spec PySem.Calls
set_option maxHeartbeats 8000000 in
theorem PySem.Challenge.cw_aa5008_01_holds : PySem.Challenge.rw_aa5008_01.Holds :=
  Mine.hd (by
    k_go0
    all_goals (try k_fold)
    rename Below _ _ _ _ => K9
    rename Fr _ _ _ _ => F9
    rename News _ _ _ _ => N9
    rename (Mine.hd.heap_39 _).In _ => X9
    rename Top _ _ _ _ _ _ => T9
    rename Heap.IsList _ _ _ => L9
    rename IntsAre _ _ => I9
    rename ¬ _ < _ => hlen9
    with_unfolding_all refine Mine.law_all (dp := 2 + claimMargin) (un := 7) (gd := some []) K9 (Mine.fr_lookup F9) X9 N9 T9 ?hd ?hu L9 I9 ?hl ?hE rfl rfl ?_
    case hd => decide +kernel
    case hu => decide +kernel
    case hl => omega
    case hE => passes_own
    intro h' tk' m' nf F8 N8
    k_steps
    all_goals trace_state)
