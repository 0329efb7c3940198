import PyProof.Rows.All
import Wide.All
import OpenK.AllK
import Wide.FinOn
import PySem.Challenge.RW_ko0159_01
open PySem PySem.W PySem.Spec PySem.Calls PyProof.Rows
set_option Elab.async false
set_option maxRecDepth 100000
set_option maxHeartbeats 8000000
set_option rowWalk.seconds 0
namespace Mine
open Builtin.Int (intBits)

theorem and_shift (k : Nat) : ∀ (x y : Int), 0 ≤ y → y < 2 ^ k → Builtin.bitAnd (x * 2 ^ k) y = 0 := by
  induction k with
  | zero =>
    intro x y h0 h1
    rw [Int.pow_zero] at h1
    have e : y = 0 := by omega
    subst e
    have h := (bitAnd_range (x * 2 ^ 0) (Int.le_refl 0))
    omega
  | succ k ih =>
    intro x y h0 h1
    rw [kbt_halves]
    have e1 : x * 2 ^ (k + 1) = 2 * (x * 2 ^ k) := by rw [Int.pow_succ, ← Int.mul_assoc, Int.mul_comm]
    have e2 : x * 2 ^ (k + 1) / 2 = x * 2 ^ k := by rw [e1]; omega
    have e3 : x * 2 ^ (k + 1) % 2 = 0 := by rw [e1]; omega
    have h2 : y / 2 < 2 ^ k := by rw [Int.pow_succ] at h1; omega
    rw [e2, ih x (y / 2) (by omega) h2, e3, if_neg (by omega)]
    omega
theorem or_shift (x y : Int) (k : Nat) (h0 : 0 ≤ y) (h1 : y < 2 ^ k) : Builtin.bitOr (x * 2 ^ k) y = x * 2 ^ k + y := by
  rw [bitOr_and, and_shift k x y h0 h1]; omega
theorem and_cut (k : Nat) : ∀ x : Int, Builtin.bitAnd x (x / 2 ^ k * 2 ^ k) = x / 2 ^ k * 2 ^ k := by
  induction k with
  | zero => intro x; rw [Int.pow_zero, Int.ediv_one, Int.mul_one, bitAnd_self]
  | succ k ih =>
    intro x
    have e0 : x / 2 ^ (k + 1) = x / 2 / 2 ^ k := by rw [Int.pow_succ, Int.mul_comm, Int.ediv_ediv_of_nonneg (by decide)]
    have e1 : x / 2 ^ (k + 1) * 2 ^ (k + 1) = 2 * (x / 2 / 2 ^ k * 2 ^ k) := by rw [e0, Int.pow_succ, ← Int.mul_assoc, Int.mul_comm]
    rw [kbt_halves, e1]
    have e2 : 2 * (x / 2 / 2 ^ k * 2 ^ k) / 2 = x / 2 / 2 ^ k * 2 ^ k := by omega
    rw [e2, ih, if_neg (by omega)]
    omega
theorem xor_cut (x : Int) (k : Nat) : Builtin.bitXor x (x.fdiv (2 ^ k) * 2 ^ k) = x.fmod (2 ^ k) := by
  have hp := kbt_pos k
  rw [bitXor_and, Int.fdiv_eq_ediv_of_nonneg _ (Int.le_of_lt hp), and_cut, Int.fmod_eq_emod_of_nonneg _ (Int.le_of_lt hp), Int.emod_def, Int.mul_comm (2 ^ k)]
  omega

theorem fdm {x b q r : Int} (hb : 0 < b) (h : r + q * b = x) (h0 : 0 ≤ r) (h1 : r < b) : x.fdiv b = q ∧ x.fmod b = r := by
  rw [Int.fdiv_eq_ediv_of_nonneg _ (Int.le_of_lt hb), Int.fmod_eq_emod_of_nonneg _ (Int.le_of_lt hb)]
  exact (Int.ediv_emod_unique hb).mpr ⟨by rw [Int.mul_comm]; exact h, h0, h1⟩
theorem fwhole (x b : Int) : x.fmod b + x.fdiv b * b = x := by rw [Int.mul_comm]; exact Int.fmod_add_mul_fdiv x b
theorem frest {x b : Int} (hb : 0 < b) : 0 ≤ x.fmod b ∧ x.fmod b < b := ⟨Int.fmod_nonneg_of_pos x hb, Int.fmod_lt_of_pos x hb⟩
theorem fquot {x b : Int} (hb : 0 < b) (hx : 0 ≤ x) : 0 ≤ x.fdiv b := Int.fdiv_nonneg hx (Int.le_of_lt hb)
theorem fquot_lt {x b c : Int} (hb : 0 < b) (hx : x < c * b) : x.fdiv b < c := by
  rw [Int.fdiv_eq_ediv_of_nonneg _ (Int.le_of_lt hb)]
  exact Int.ediv_lt_of_lt_mul hb hx

theorem bits_lt {x : Int} {k : Nat} (h0 : 0 ≤ x) (h : x < 2 ^ k) : intBits x ≤ k := by
  refine intBits_le_iff.mpr ?_
  have hc := kbt_cast k
  omega
theorem lt_bits {x : Int} {k : Nat} (h : intBits x ≤ k) : x < 2 ^ k ∧ -(2 ^ k) < x := by
  have h1 := intBits_le_iff.mp h
  have hc := kbt_cast k
  omega
theorem bits_ge {x : Int} (h : 0 < x) : 1 ≤ intBits x ∧ 2 ^ (intBits x - 1) ≤ x := by
  have h1 : 1 ≤ intBits x := by
    rcases Nat.eq_zero_or_pos (intBits x) with e | e
    · have := intBits_le_iff.mp (Nat.le_of_eq e)
      rw [Nat.pow_zero] at this
      omega
    · exact e
  refine ⟨h1, ?_⟩
  rcases Int.lt_or_le x (2 ^ (intBits x - 1)) with h2 | h2
  · have := bits_lt (Int.le_of_lt h) h2
    omega
  · exact h2
theorem bits_pow (k : Nat) : intBits (2 ^ k : Int) ≤ k + 1 := by
  have hp := kbt_pos k
  refine bits_lt (Int.le_of_lt hp) ?_
  rw [Int.pow_succ]; omega
theorem pow_le {j k : Nat} (h : j ≤ k) : (2 : Int) ^ j ≤ 2 ^ k := by
  have h1 := Nat.pow_le_pow_right (n := 2) (by decide) h
  have hj := kbt_cast j
  have hk := kbt_cast k
  omega
theorem pow_lt {j k : Nat} (h : j < k) : (2 : Int) ^ j < 2 ^ k := by
  have h1 := Nat.pow_lt_pow_right (a := 2) (by decide) h
  have hj := kbt_cast j
  have hk := kbt_cast k
  omega
theorem np_bits {a b : Int} (h : intBits b ≤ 8000) : Builtin.divisionGoesByPylong a b = false := by
  refine PyProof.noPylong_of_log2 ?_
  unfold Builtin.Int.intBits at h
  by_cases h0 : b = 0
  · subst h0; decide
  · have hb : (b == 0) = false := by simpa using h0
    rw [hb] at h
    simp only [Bool.false_eq_true, if_false] at h
    omega

theorem d3_eq {a12 a3 b b1 b2 p : Int} (hb : b = b1 * p + b2) (h2 : 0 ≤ b2) (h2' : b2 < p) (ha : a12 < b) (h3 : a3 < p) :
    ((a12 - b1 * p + b1) * p + a3 - (p - 1) * b2) + (p - 1) * b = a12 * p + a3 ∧ (a12 - b1 * p + b1) * p + a3 - (p - 1) * b2 < b := by
  have e : ((a12 - b1 * p + b1) * p + a3 - (p - 1) * b2) + (p - 1) * b = a12 * p + a3 := by
    subst hb
    rw [Int.mul_add, Int.add_mul, Int.sub_mul, Int.sub_mul p 1 (b1 * p), Int.mul_comm p (b1 * p)]
    omega
  refine ⟨e, ?_⟩
  have hp : 0 < p := by omega
  have k1 : (a12 - b1 * p + b1) * p ≤ (b1 + b2 - 1) * p := Int.mul_le_mul_of_nonneg_right (by omega) (Int.le_of_lt hp)
  have k2 : (b1 + b2 - 1) * p = b1 * p + b2 * p - p := by rw [Int.sub_mul, Int.add_mul]; omega
  have k3 : (p - 1) * b2 = b2 * p - b2 := by rw [Int.sub_mul, Int.mul_comm p b2]; omega
  omega
theorem d3_ne {a12 a3 b b1 b2 p : Int} (hb : b = b1 * p + b2) (h2 : 0 ≤ b2) (h2' : b2 < p) (h1 : 0 < b1) (ha0 : 0 ≤ a12) (h3 : a3 < p) :
    (a12.fmod b1 * p + a3 - a12.fdiv b1 * b2) + a12.fdiv b1 * b = a12 * p + a3 ∧ a12.fmod b1 * p + a3 - a12.fdiv b1 * b2 < b := by
  have w := fwhole a12 b1
  have r := frest (x := a12) h1
  have q := fquot h1 ha0
  generalize a12.fdiv b1 = Q at *
  generalize a12.fmod b1 = R at *
  constructor
  · subst hb w
    rw [Int.mul_add, Int.add_mul, ← Int.mul_assoc]
    omega
  · have k1 : R * p ≤ (b1 - 1) * p := Int.mul_le_mul_of_nonneg_right (by omega) (by omega)
    have k2 : (b1 - 1) * p = b1 * p - p := by rw [Int.sub_mul]; omega
    have k3 : 0 ≤ Q * b2 := Int.mul_nonneg q h2
    omega
theorem d3_turn {q r b X : Int} (hb : 0 < b) (h : r + q * b = X) (_h2 : r < b) (hr : r < 0) : r + b + (q - 1) * b = X ∧ r + b < b := by
  refine ⟨?_, by omega⟩
  rw [Int.sub_mul, Int.one_mul, ← h]; omega
theorem d3_end {q r b X : Int} (hb : 0 < b) (h : r + q * b = X) (h2 : r < b) (hr : ¬ r < 0) : q = X.fdiv b ∧ r = X.fmod b := by
  have e := fdm hb h (by omega) h2
  exact ⟨e.1.symm, e.2.symm⟩
theorem d2_pre {a b : Int} {n j : Nat} (hj : n = j + j) (hj1 : 1 ≤ j) (hb : 2 ^ (n - 1) ≤ b) (hb' : b < 2 ^ n) (ha : 0 ≤ a) (ha' : a < 2 ^ n * b) :
    b = b.fdiv (2 ^ j) * 2 ^ j + b.fmod (2 ^ j) ∧ 0 ≤ b.fmod (2 ^ j) ∧ b.fmod (2 ^ j) < 2 ^ j ∧ 0 < b.fdiv (2 ^ j) ∧ b.fdiv (2 ^ j) < 2 ^ j ∧ 0 ≤ a.fdiv (2 ^ n) ∧ a.fdiv (2 ^ n) < b ∧
      0 ≤ (a.fdiv (2 ^ j)).fmod (2 ^ j) ∧ (a.fdiv (2 ^ j)).fmod (2 ^ j) < 2 ^ j ∧ a.fdiv (2 ^ n) * 2 ^ j + (a.fdiv (2 ^ j)).fmod (2 ^ j) = a.fdiv (2 ^ j) := by
  have hP := kbt_pos j
  have hN := kbt_pos n
  have eN : (2 : Int) ^ n = 2 ^ j * 2 ^ j := by rw [hj, Int.pow_add]
  have w := fwhole b (2 ^ j)
  have r := frest (x := b) hP
  have r2 := frest (x := a.fdiv (2 ^ j)) hP
  have w2 := fwhole (a.fdiv (2 ^ j)) (2 ^ j)
  have hle : (2 : Int) ^ j ≤ 2 ^ (n - 1) := pow_le (by omega)
  have e3 : a.fdiv (2 ^ n) = (a.fdiv (2 ^ j)).fdiv (2 ^ j) := by
    rw [Int.fdiv_eq_ediv_of_nonneg _ (Int.le_of_lt hN), Int.fdiv_eq_ediv_of_nonneg _ (Int.le_of_lt hP), Int.fdiv_eq_ediv_of_nonneg _ (Int.le_of_lt hP), eN, Int.ediv_ediv_of_nonneg (Int.le_of_lt hP)]
  refine ⟨by omega, r.1, r.2, ?_, ?_, fquot hN ha, ?_, r2.1, r2.2, ?_⟩
  · rcases Int.lt_or_le 0 (b.fdiv (2 ^ j)) with h | h
    · exact h
    · have := Int.mul_le_mul_of_nonneg_right h (Int.le_of_lt hP)
      omega
  · refine fquot_lt hP ?_
    rw [← eN]; exact hb'
  · refine fquot_lt hN ?_
    rw [Int.mul_comm]; exact ha'
  · rw [e3]; omega
theorem d2_post {a b P : Int} (hP : 0 < P) (hb : 0 < b) :
    0 ≤ ((a.fdiv P).fmod b * P + a.fmod P).fdiv b ∧ ((a.fdiv P).fmod b * P + a.fmod P).fdiv b < P ∧ a.fdiv b = (a.fdiv P).fdiv b * P + ((a.fdiv P).fmod b * P + a.fmod P).fdiv b ∧
      a.fmod b = ((a.fdiv P).fmod b * P + a.fmod P).fmod b := by
  have w := fwhole a P
  have r := frest (x := a) hP
  have w1 := fwhole (a.fdiv P) b
  have r1 := frest (x := a.fdiv P) hb
  generalize a.fdiv P = A1 at *
  generalize a.fmod P = A0 at *
  have h1 : 0 ≤ A1.fmod b * P := Int.mul_nonneg r1.1 (Int.le_of_lt hP)
  have w2 := fwhole (A1.fmod b * P + A0) b
  have r2 := frest (x := A1.fmod b * P + A0) hb
  have h2 : A1.fmod b * P ≤ (b - 1) * P := Int.mul_le_mul_of_nonneg_right (by omega) (Int.le_of_lt hP)
  rw [Int.sub_mul, Int.one_mul] at h2
  have key : (A1.fmod b * P + A0).fmod b + (A1.fdiv b * P + (A1.fmod b * P + A0).fdiv b) * b = a := by
    have k1 : A1 * P = A1.fmod b * P + A1.fdiv b * b * P := by rw [← Int.add_mul, w1]
    have k2 : A1.fdiv b * b * P = A1.fdiv b * P * b := by rw [Int.mul_assoc, Int.mul_comm b P, ← Int.mul_assoc]
    rw [Int.add_mul]
    omega
  have e := fdm hb key r2.1 r2.2
  exact ⟨fquot hb (by omega), fquot_lt hb (by rw [Int.mul_comm P b]; omega), e.1, e.2⟩
theorem pad_out {a b : Int} (hb : 0 < b) : (a * 2).fdiv (b * 2) = a.fdiv b ∧ ((a * 2).fmod (b * 2)).fdiv 2 = a.fmod b := by
  have w := fwhole a b
  have r := frest (x := a) hb
  have e := fdm (x := a * 2) (b := b * 2) (q := a.fdiv b) (r := a.fmod b * 2) (by omega) (by rw [← Int.mul_assoc]; omega) (by omega) (by omega)
  refine ⟨e.1, ?_⟩
  rw [e.2, Int.fdiv_eq_ediv_of_nonneg _ (by decide)]; omega

def digs (n : Nat) : Nat → Int → List Int
  | 0, _ => []
  | c + 1, x => x.fmod (2 ^ n) :: digs n c (x.fdiv (2 ^ n))
theorem digs_length (n : Nat) : ∀ (c : Nat) (x : Int), (digs n c x).length = c
  | 0, _ => rfl
  | c + 1, x => by show (digs n c _).length + 1 = c + 1; rw [digs_length]
theorem fmod_fmod_pow (x : Int) (i j : Nat) : (x.fmod (2 ^ (i + j))).fmod (2 ^ i) = x.fmod (2 ^ i) := by
  have hi := kbt_pos i
  have hj := kbt_pos (i + j)
  rw [Int.fmod_eq_emod_of_nonneg _ (Int.le_of_lt hi), Int.fmod_eq_emod_of_nonneg _ (Int.le_of_lt hj), Int.fmod_eq_emod_of_nonneg _ (Int.le_of_lt hi)]
  refine Int.emod_emod_of_dvd x ⟨2 ^ j, ?_⟩
  rw [Int.pow_add]
theorem fmod_fdiv_pow (x : Int) (i j : Nat) : (x.fmod (2 ^ (i + j))).fdiv (2 ^ i) = (x.fdiv (2 ^ i)).fmod (2 ^ j) := by
  have hi := kbt_pos i
  have hj := kbt_pos j
  have w := fwhole x (2 ^ i)
  have w2 := fwhole (x.fdiv (2 ^ i)) (2 ^ j)
  have r := frest (x := x) hi
  have r2 := frest (x := x.fdiv (2 ^ i)) hj
  generalize x.fdiv (2 ^ i) = Q at *
  generalize x.fmod (2 ^ i) = R at *
  have e : x.fmod (2 ^ (i + j)) = R + Q.fmod (2 ^ j) * 2 ^ i := by
    refine (fdm (q := Q.fdiv (2 ^ j)) (kbt_pos (i + j)) ?_ ?_ ?_).2
    · rw [Int.pow_add, ← w]
      have : Q * 2 ^ i = Q.fmod (2 ^ j) * 2 ^ i + Q.fdiv (2 ^ j) * 2 ^ j * 2 ^ i := by rw [← Int.add_mul, w2]
      rw [this, Int.mul_comm (2 ^ i) (2 ^ j), ← Int.mul_assoc]; omega
    · have := Int.mul_nonneg r2.1 (Int.le_of_lt hi); omega
    · rw [Int.pow_add]
      have h2 : Q.fmod (2 ^ j) * 2 ^ i ≤ (2 ^ j - 1) * 2 ^ i := Int.mul_le_mul_of_nonneg_right (by omega) (Int.le_of_lt hi)
      rw [Int.sub_mul, Int.one_mul, Int.mul_comm (2 ^ j)] at h2
      omega
  rw [e]
  exact (fdm hi rfl r.1 r.2).1
theorem fdiv_fdiv_pow (x : Int) (i j : Nat) : (x.fdiv (2 ^ i)).fdiv (2 ^ j) = x.fdiv (2 ^ (i + j)) := by
  have hi := kbt_pos i
  have hj := kbt_pos j
  have hij := kbt_pos (i + j)
  rw [Int.fdiv_eq_ediv_of_nonneg _ (Int.le_of_lt hi), Int.fdiv_eq_ediv_of_nonneg _ (Int.le_of_lt hj), Int.fdiv_eq_ediv_of_nonneg _ (Int.le_of_lt hij), Int.pow_add, Int.ediv_ediv_of_nonneg (Int.le_of_lt hi)]
theorem digs_add (n : Nat) : ∀ (c d : Nat) (x : Int), digs n (c + d) x = digs n c (x.fmod (2 ^ (c * n))) ++ digs n d (x.fdiv (2 ^ (c * n)))
  | 0, d, x => by simp [digs]
  | c + 1, d, x => by
    have e1 : (c + 1) * n = n + c * n := by rw [Nat.succ_mul, Nat.add_comm]
    have e2 : c + 1 + d = (c + d) + 1 := by omega
    rw [e2, e1]
    show x.fmod (2 ^ n) :: digs n (c + d) (x.fdiv (2 ^ n)) = (x.fmod (2 ^ (n + c * n))).fmod (2 ^ n) :: digs n c ((x.fmod (2 ^ (n + c * n))).fdiv (2 ^ n)) ++ digs n d (x.fdiv (2 ^ (n + c * n)))
    rw [digs_add n c d, fmod_fmod_pow, fmod_fdiv_pow, fdiv_fdiv_pow]
    rfl
theorem digs_one {n : Nat} {x : Int} (h0 : 0 ≤ x) (h1 : x < 2 ^ n) : digs n 1 x = [x] := by
  show [x.fmod (2 ^ n)] = [x]
  rw [(fdm (q := 0) (kbt_pos n) (by omega) h0 h1).2]
def splice (ns : List Int) (lo : Nat) (ds : List Int) : List Int := ns.take lo ++ ds ++ ns.drop (lo + ds.length)
theorem splice_length {ns ds : List Int} {lo : Nat} (h : lo + ds.length ≤ ns.length) : (splice ns lo ds).length = ns.length := by
  unfold splice
  simp only [List.length_append, List.length_take, List.length_drop]; omega
theorem splice_splice {ns ds es : List Int} {lo : Nat} (h : lo + ds.length + es.length ≤ ns.length) : splice (splice ns lo ds) (lo + ds.length) es = splice ns lo (ds ++ es) := by
  unfold splice
  have h1 : (ns.take lo).length = lo := by rw [List.length_take]; omega
  rw [List.length_append]
  have e1 : (List.take lo ns ++ ds ++ List.drop (lo + ds.length) ns).take (lo + ds.length) = List.take lo ns ++ ds := by
    rw [List.take_left']
    rw [List.length_append, h1]
  have e2 : (List.take lo ns ++ ds ++ List.drop (lo + ds.length) ns).drop (lo + ds.length + es.length) = List.drop (lo + (ds.length + es.length)) ns := by
    rw [List.drop_append]
    have h2 : (List.take lo ns ++ ds).length = lo + ds.length := by rw [List.length_append, h1]
    rw [List.drop_of_length_le (by omega), h2, List.drop_drop, List.nil_append]
    congr 1
    omega
  rw [e1, e2, List.append_assoc (List.take lo ns)]
theorem splice_one {ns : List Int} {lo : Nat} {x : Int} (h : lo < ns.length) : ns.set lo x = splice ns lo [x] := by
  unfold splice
  rw [List.set_eq_take_append_cons_drop, if_pos h]
  simp
theorem splice_all {ns ds : List Int} (h : ns.length = ds.length) : splice ns 0 ds = ds := by
  unfold splice
  rw [List.take_zero, List.nil_append, List.drop_of_length_le (by omega), List.append_nil]

def und (n : Nat) : List Int → Int
  | [] => 0
  | d :: r => d + 2 ^ n * und n r
theorem und_append (n : Nat) : ∀ xs ys : List Int, und n (xs ++ ys) = und n xs + 2 ^ (xs.length * n) * und n ys
  | [], ys => by simp [und]
  | x :: xs, ys => by
    show x + 2 ^ n * und n (xs ++ ys) = x + 2 ^ n * und n xs + 2 ^ ((xs.length + 1) * n) * und n ys
    rw [und_append n xs ys, Nat.add_mul, Nat.one_mul, Nat.add_comm (xs.length * n) n, Int.pow_add, Int.mul_add, Int.mul_assoc]
    omega
theorem und_bounds (n : Nat) : ∀ xs : List Int, (∀ d ∈ xs, 0 ≤ d ∧ d < 2 ^ n) → 0 ≤ und n xs ∧ und n xs < 2 ^ (xs.length * n)
  | [], _ => by simp [und]
  | x :: xs, h => by
    have h1 := h x (.head _)
    have h2 := und_bounds n xs fun d hd => h d (.tail _ hd)
    have hp := kbt_pos n
    have k1 : 0 ≤ 2 ^ n * und n xs := Int.mul_nonneg (Int.le_of_lt hp) h2.1
    have k2 : (2 : Int) ^ n * und n xs ≤ 2 ^ n * (2 ^ (xs.length * n) - 1) := Int.mul_le_mul_of_nonneg_left (by omega) (Int.le_of_lt hp)
    rw [Int.mul_sub, Int.mul_one] at k2
    refine ⟨by show 0 ≤ x + _; omega, ?_⟩
    show x + 2 ^ n * und n xs < 2 ^ ((xs.length + 1) * n)
    rw [Nat.add_mul, Nat.one_mul, Nat.add_comm (xs.length * n) n, Int.pow_add]
    omega
theorem und_digs (n : Nat) : ∀ (c : Nat) (x : Int), 0 ≤ x → x < 2 ^ (c * n) → und n (digs n c x) = x
  | 0, x, h0, h1 => by rw [Nat.zero_mul, Int.pow_zero] at h1; show (0 : Int) = x; omega
  | c + 1, x, h0, h1 => by
    have hp := kbt_pos n
    show x.fmod (2 ^ n) + 2 ^ n * und n (digs n c (x.fdiv (2 ^ n))) = x
    rw [und_digs n c _ (fquot hp h0) (fquot_lt hp (by rw [← Int.pow_add]; rw [Nat.add_mul, Nat.one_mul] at h1; exact h1)), Int.mul_comm]
    exact fwhole x _
theorem digs_bounds (n : Nat) : ∀ (c : Nat) (x : Int), ∀ d ∈ digs n c x, 0 ≤ d ∧ d < 2 ^ n
  | 0, _, _, h => nomatch h
  | c + 1, x, d, h => by
    rcases List.mem_cons.mp h with rfl | h
    · exact frest (kbt_pos n)
    · exact digs_bounds n c _ d h
def cut (ns : List Int) (lo hi : Nat) : List Int := (ns.take hi).drop lo
theorem cut_length {ns : List Int} {lo hi : Nat} (h : hi ≤ ns.length) : (cut ns lo hi).length = hi - lo := by
  unfold cut; rw [List.length_drop, List.length_take]; omega
theorem cut_one {ns : List Int} {lo : Nat} (h : lo < ns.length) : cut ns lo (lo + 1) = [ns.getD lo 0] := by
  unfold cut
  rw [List.take_add_one, List.getElem?_eq_getElem h, List.getD_eq_getElem?_getD, List.getElem?_eq_getElem h]
  rw [List.drop_append, List.drop_of_length_le (by rw [List.length_take]; omega)]
  have : lo - (List.take lo ns).length = 0 := by rw [List.length_take]; omega
  rw [this]; rfl
theorem cut_split {ns : List Int} {lo mid hi : Nat} (h1 : lo ≤ mid) (h2 : mid ≤ hi) : cut ns lo hi = cut ns lo mid ++ cut ns mid hi := by
  unfold cut
  have e : ns.take hi = ns.take mid ++ (ns.take hi).drop mid := by
    have := List.take_append_drop mid (ns.take hi)
    rw [List.take_take, Nat.min_eq_left h2] at this
    exact this.symm
  by_cases hl : mid ≤ ns.length
  · have hm : (List.take mid ns).length = mid := by rw [List.length_take]; omega
    conv => lhs; rw [e]
    rw [List.drop_append, hm, show lo - mid = 0 by omega, List.drop_zero]
  · have e1 : ns.take hi = ns := List.take_of_length_le (by omega)
    have e2 : ns.take mid = ns := List.take_of_length_le (by omega)
    rw [e1, e2, List.drop_of_length_le (show ns.length ≤ mid by omega), List.append_nil]
theorem cut_mem {ns : List Int} {lo hi : Nat} {d : Int} (h : d ∈ cut ns lo hi) : d ∈ ns := List.mem_of_mem_take (List.mem_of_mem_drop h)
theorem cut_all (ns : List Int) : cut ns 0 ns.length = ns := by unfold cut; rw [List.drop_zero, List.take_length]
end Mine

namespace Mine
open_top hd for PySem.Challenge.rw_ko0159_01
end Mine

namespace Mine
open Builtin.Int (intBits)
abbrev tup2 (x y : Int) (t u : Tok) : Obj := { cls := .type "tuple", data := .seq #[.int x t, .int y u] }
def Stop (P : Prop) : Prop := P
theorem Stop.out {P : Prop} (h : Stop P) : P := h
theorem Stop.go {P : Prop} (h : P) : Stop P := h

def Told2 (prog : Program) (w : World) (p : Program) (loose : List Str) (mean : ExcName → Option Value) (mg mb : Str → Option Value) (f : Addr) (vs : List Value) (d u : Nat)
    (Out : List (Addr × Obj) → Value → List (Addr × Obj) → Prop) : Prop :=
  ∀ (dp un : Nat) (gd : Option (List Code)) (cn : Str) (cs : Scope) (a : Addr) (ccd : Value) (cl : List (Str × Addr)) (outer : List Env) (A₀ : Around) (base h₀ : Heap) (L : Addr) (m : Str → Option Value) (news : List (Addr × Obj)) (s : Shared)
    (Q E : Value → Shared → Prop),
    Below A₀ base outer h₀ → Fr h₀ L s.heap m → (Mine.hd.heap_39 w.params).In h₀ → News h₀ L s.heap news → Top p loose mean mg mb h₀ → cs.kind = .function → dp + d < recursionLimit → un + u < cLine →
    (∀ r news' h' tk', Fr h₀ L h' m → News h₀ L h' news' → Out news r news' → Q r { s with heap := h', toks := tk' }) →
    wpAny (model prog w) (ktrTop dp un gd cn cs L a ccd cl outer) (call (.ref f) vs) Q E s

def OutPair (x y : Int) (news : List (Addr × Obj)) (r : Value) (news' : List (Addr × Obj)) : Prop :=
  ∃ q t u, r = .ref q ∧ news' = (q, tup2 x y t u) :: news ∧ ∀ p ∈ news, p.1 < q

theorem allLt_mem {d : Addr} : ∀ {l : List (Addr × Obj)}, AllLt d l → ∀ p ∈ l, p.1 < d
  | [], _, _, h => nomatch h
  | _ :: _, ⟨h, _⟩, _, .head _ => h
  | _ :: _, ⟨_, r⟩, _, .tail _ m => allLt_mem r _ m
theorem allLt_ne {d e : Addr} {l : List (Addr × Obj)} (h : AllLt d l) (hle : @LE.le Nat _ d e) : ∀ p ∈ l, p.1 ≠ e := fun p hp => Nat.ne_of_lt (Nat.lt_of_lt_of_le (allLt_mem h p hp) hle)
theorem news_sub {h₀ h : Heap} {L : Addr} {l l' : List (Addr × Obj)} (N : News h₀ L h l) (hs : ∀ p ∈ l', p ∈ l) : News h₀ L h l' := fun p hp => N p (hs p hp)

theorem pair_end {x y : Int} {h₀ h' : Heap} {L : Addr} {m : Str → Option Value} {news news' : List (Addr × Obj)} {q : Addr} {t u : Tok} {tk' : Nat} {Q : Value → Shared → Prop} {s : Shared}
    (hret : ∀ r news' h' tk', Fr h₀ L h' m → News h₀ L h' news' → OutPair x y news r news' → Q r { s with heap := h', toks := tk' }) (F : Fr h₀ L h' m) (N : News h₀ L h' news')
    (hm : (q, tup2 x y t u) ∈ news') (hs : ∀ p ∈ news, p ∈ news') (hl : ∀ p ∈ news, p.1 < q) : Q (.ref q) { s with heap := h', toks := tk' } :=
  hret _ _ _ _ F (news_sub N fun p hp => (List.mem_cons.mp hp).elim (fun e => e ▸ hm) (hs p)) ⟨q, t, u, rfl, rfl, hl⟩

section
variable {prog : Program} {w : World} {p : Program} {loose : List Str} {mean : ExcName → Option Value} {mg mb : Str → Option Value} {f : Addr} {vs : List Value} {d u : Nat}
theorem told_use {Out : List (Addr × Obj) → Value → List (Addr × Obj) → Prop} {dp un : Nat} {gd : Option (List Code)} {cn : Str} {cs : Scope} {a : Addr} {ccd : Value} {cl : List (Str × Addr)} {outer : List Env} {A₀ : Around} {base h₀ : Heap} {L : Addr} {m : Str → Option Value} {news : List (Addr × Obj)} {s : Shared}
    {Q E : Value → Shared → Prop} (C : Told2 prog w p loose mean mg mb f vs d u Out)
    (B : Below A₀ base outer h₀) (F : Fr h₀ L s.heap m) (X : (Mine.hd.heap_39 w.params).In h₀) (N : News h₀ L s.heap news) (T : Top p loose mean mg mb h₀) (hk : cs.kind = .function) (hd : dp + d < recursionLimit) (hu : un + u < cLine)
    (ret : ∀ r news' h' tk', Fr h₀ L h' m → News h₀ L h' news' → Out news r news' → Q r { s with heap := h', toks := tk' }) :
    wpAny (model prog w) (ktrTop dp un gd cn cs L a ccd cl outer) (call (.ref f) vs) Q E s := C _ _ _ _ _ _ _ _ _ _ _ _ _ _ _ _ _ _ B F X N T hk hd hu ret
theorem pair_use {x y : Int} {dp un : Nat} {gd : Option (List Code)} {cn : Str} {cs : Scope} {a : Addr} {ccd : Value} {cl : List (Str × Addr)} {outer : List Env} {A₀ : Around} {base h₀ : Heap} {L : Addr} {m : Str → Option Value} {news : List (Addr × Obj)} {s : Shared}
    {Q E : Value → Shared → Prop} (C : Told2 prog w p loose mean mg mb f vs d u (OutPair x y))
    (B : Below A₀ base outer h₀) (F : Fr h₀ L s.heap m) (X : (Mine.hd.heap_39 w.params).In h₀) (N : News h₀ L s.heap news) (T : Top p loose mean mg mb h₀) (hk : cs.kind = .function) (hd : dp + d < recursionLimit) (hu : un + u < cLine)
    (ret : ∀ q t u h' tk', Fr h₀ L h' m → News h₀ L h' ((q, tup2 x y t u) :: news) → (∀ p ∈ news, p.1 < q) → Q (.ref q) { s with heap := h', toks := tk' }) :
    wpAny (model prog w) (ktrTop dp un gd cn cs L a ccd cl outer) (call (.ref f) vs) Q E s :=
  told_use C B F X N T hk hd hu (by rintro r news' h' tk' F' N' ⟨q, t, u, rfl, rfl, hl⟩; exact ret q t u h' tk' F' N' hl)
end

section
variable {prog : Program} {w : World} {A : Around} {E : Value → Shared → Prop} {s : Shared} {a b : Int} {k : Nat} {t u : Tok} {Q : Value → Shared → Prop}
theorem lsh_nat {m : Nat} (hsz : intBits a ≤ m) (hk : m + k ≤ 134217728) (h : Q (.int (a * 2 ^ k) s.toks) { s with toks := s.toks + 1 }) : wpAny (model prog w) A (binaryOp .LShift (.int a t) (.int (k : Int) u)) Q E s :=
  lshift_int (by omega) (by omega) (by rw [Int.toNat_natCast]; exact h)
theorem lsh_one (hk : k ≤ 100000000) (h : Q (.int (2 ^ k) s.toks) { s with toks := s.toks + 1 }) : wpAny (model prog w) A (binaryOp .LShift (.int 1 t) (.int (k : Int) u)) Q E s :=
  lsh_nat (m := 1) (by decide) (by omega) (by rw [Int.one_mul]; exact h)
theorem rsh_nat (h : Q (.int (a.fdiv (2 ^ k)) s.toks) { s with toks := s.toks + 1 }) : wpAny (model prog w) A (binaryOp .RShift (.int a t) (.int (k : Int) u)) Q E s :=
  rshift_int (by omega) (by rw [Int.toNat_natCast]; exact h)
theorem rsh_half (h : Q (.int ((k / 2 : Nat) : Int) s.toks) { s with toks := s.toks + 1 }) : wpAny (model prog w) A (binaryOp .RShift (.int (k : Int) t) (.int 1 u)) Q E s := by
  refine rshift_int (by decide) ?_
  have e : (k : Int).fdiv (2 ^ (1 : Int).toNat) = ((k / 2 : Nat) : Int) := by
    have e1 : (2 : Int) ^ (1 : Int).toNat = 2 := rfl
    rw [e1, Int.fdiv_eq_ediv_of_nonneg _ (by decide)]; omega
  rw [e]; exact h
theorem ilsh_one {m : Nat} (hsz : intBits a ≤ m) (hk : m ≤ 100000000) (h : Q (.int (a * 2) s.toks) { s with toks := s.toks + 1 }) : wpAny (model prog w) A (inplaceOp .LShift (.int a t) (.int 1 u)) Q E s :=
  ilshift_int (by decide) (by omega) (by have e1 : (2 : Int) ^ (1 : Int).toNat = 2 := rfl
                                         rw [e1]; exact h)
theorem irsh_one (h : Q (.int (a.fdiv 2) s.toks) { s with toks := s.toks + 1 }) : wpAny (model prog w) A (inplaceOp .RShift (.int a t) (.int 1 u)) Q E s :=
  irshift_int (by decide) (by have e1 : (2 : Int) ^ (1 : Int).toNat = 2 := rfl
                              rw [e1]; exact h)
theorem and_one (h : Q (.int ((k % 2 : Nat) : Int) s.toks) { s with toks := s.toks + 1 }) : wpAny (model prog w) A (binaryOp .BitAnd (.int (k : Int) t) (.int 1 u)) Q E s := by
  refine and_int ?_
  have e : Builtin.bitAnd (k : Int) 1 = ((k % 2 : Nat) : Int) := by rw [bitAnd_m1]; omega
  rw [e]; exact h
theorem and_mask (h : Q (.int (a.fmod (2 ^ k)) s.toks) { s with toks := s.toks + 1 }) : wpAny (model prog w) A (binaryOp .BitAnd (.int a t) (.int (2 ^ k - 1) u)) Q E s :=
  and_int (by rw [kbt_maskF]; exact h)
theorem or_disj (h0 : 0 ≤ b) (h1 : b < 2 ^ k) (h : Q (.int (a * 2 ^ k + b) s.toks) { s with toks := s.toks + 1 }) : wpAny (model prog w) A (binaryOp .BitOr (.int (a * 2 ^ k) t) (.int b u)) Q E s :=
  or_int (by rw [or_shift _ _ _ h0 h1]; exact h)
theorem xor_low (h : Q (.int (a.fmod (2 ^ k)) s.toks) { s with toks := s.toks + 1 }) : wpAny (model prog w) A (binaryOp .BitXor (.int a t) (.int (a.fdiv (2 ^ k) * 2 ^ k) u)) Q E s :=
  xor_int (by rw [xor_cut]; exact h)
theorem iadd_one (h : Q (.int ((k + 1 : Nat) : Int) s.toks) { s with toks := s.toks + 1 }) : wpAny (model prog w) A (inplaceOp .Add (.int (k : Int) t) (.int 1 u)) Q E s :=
  iadd_int h
theorem mul_ok {m n : Nat} (ha : intBits a ≤ m) (hb : intBits b ≤ n) (hk : m + n ≤ 134217728) (h : Q (.int (a * b) s.toks) { s with toks := s.toks + 1 }) : wpAny (model prog w) A (binaryOp .Mult (.int a t) (.int b u)) Q E s :=
  PyProof.Rows.mul_int h (mulOk_of_bits ha hb hk)
end

theorem ints_rep {t : Tok} : ∀ c : Nat, IntsAre (List.replicate c (.int 0 t)) (List.replicate c 0)
  | 0 => .nil
  | c + 1 => .cons 0 t (ints_rep c)
theorem rep_flat {α : Type} (v : α) : ∀ c : Nat, (List.replicate c [v]).flatten = List.replicate c v
  | 0 => rfl
  | c + 1 => by rw [List.replicate_succ, List.flatten_cons, rep_flat v c, List.replicate_succ]; rfl
section
variable {prog : Program} {w : World} {A : Around} {E : Value → Shared → Prop} {s : Shared} {i j : Nat} {t u : Tok} {Q : Value → Shared → Prop} {h₀ : Heap} {L : Addr} {m : Str → Option Value} {news : List (Addr × Obj)}
theorem add_nat (h : Q (.int ((i + j : Nat) : Int) s.toks) { s with toks := s.toks + 1 }) : wpAny (model prog w) A (binaryOp .Add (.int (i : Int) t) (.int (j : Int) u)) Q E s :=
  PyProof.Rows.add_int (by rw [← Int.natCast_add]; exact h)
theorem sub_nat (hji : j ≤ i) (h : Q (.int ((i - j : Nat) : Int) s.toks) { s with toks := s.toks + 1 }) : wpAny (model prog w) A (binaryOp .Sub (.int (i : Int) t) (.int (j : Int) u)) Q E s :=
  PyProof.Rows.sub_int (by rw [← Int.natCast_sub hji]; exact h)
theorem sub_one (hi : 1 ≤ i) (h : Q (.int ((i - 1 : Nat) : Int) s.toks) { s with toks := s.toks + 1 }) : wpAny (model prog w) A (binaryOp .Sub (.int (i : Int) t) (.int 1 u)) Q E s :=
  PyProof.Rows.sub_int (by have e : (i : Int) - 1 = ((i - 1 : Nat) : Int) := by omega
                           rw [e]; exact h)
theorem mul_nat (hi : i ≤ 1000000) (h : Q (.int ((i * j : Nat) : Int) s.toks) { s with toks := s.toks + 1 }) : wpAny (model prog w) A (binaryOp .Mult (.int (i : Int) t) (.int (j : Int) u)) Q E s :=
  PyProof.Rows.mul_int (by rw [← Int.natCast_mul]; exact h) (.of_left (intBits_le_64 (by omega) (by omega)))
theorem div_nat (hj : 1 ≤ j) (hj2 : j ≤ 100000) (h : Q (.int ((i / j : Nat) : Int) s.toks) { s with toks := s.toks + 1 }) : wpAny (model prog w) A (binaryOp .FloorDiv (.int (i : Int) t) (.int (j : Int) u)) Q E s :=
  floordiv_int (by omega) (by rw [Int.fdiv_eq_ediv_of_nonneg _ (by omega), ← Int.natCast_ediv]; exact h) (Or.inl (PyProof.noPylong_small (by omega)))
theorem mul_rep {l : Addr} {c k : Nat} {t : Tok} (F : Fr h₀ L s.heap m) (N : News h₀ L s.heap news) (hl : (l, listOf #[.int 0 t] k) ∈ news) (hc : c ≤ 1000000)
    (h : ∀ D h', Fr h₀ L h' m → News h₀ L h' ((D, listOf (List.replicate c (.int 0 t)).toArray 0) :: news) → (∀ p ∈ news, p.1 < D) → Q (.ref D) { s with heap := h' }) :
    wpAny (model prog w) A (binaryOp .Mult (.ref l) (.int (c : Int) u)) Q E s := by
  refine mul_list F N (N _ hl).1 (by omega) (by omega) (by simp; omega) fun h' F' N' => ?_
  rw [listMul_foldl_if, Int.toNat_natCast] at N'
  have e : (List.replicate c (#[Value.int 0 t] : Array Value).toList).flatten = List.replicate c (Value.int 0 t) := rep_flat _ c
  rw [e] at N'
  exact h _ _ F' N' (fun p hp => Heap.lt_size (N p hp).1)
end

structure TabOk (ln col : Int) (qual : Str) (ps : Array Value) (news : List (Addr × Obj)) : Prop where
  ok : ps = #[] ∨ ∃ (c : Addr) (oc : Obj) (vs : Array Value) (t : Tok), ps = #[rawInt ln, rawInt col, .ref c] ∧ (c, oc) ∈ news ∧ oc.data = .fields vs ∧ vs[1]? = some (.str qual t)
theorem TabOk.mono {ln col : Int} {qual : Str} {ps : Array Value} {l l' : List (Addr × Obj)} (h : TabOk ln col qual ps l) (hs : ∀ p ∈ l, p ∈ l') : TabOk ln col qual ps l' :=
  ⟨h.ok.imp id fun ⟨c, oc, vs, t, a, b, d, e⟩ => ⟨c, oc, vs, t, a, hs _ b, d, e⟩⟩
abbrev q30 : Str := (Str.ofString "_int2digits" ++ Str.ofString ".<locals>.") ++ Str.ofString "inner"
abbrev q37 : Str := (Str.ofString "_digits2int" ++ Str.ofString ".<locals>.") ++ Str.ofString "inner"
section
variable {prog : Program} {w : World} {A : Around} {E : Value → Shared → Prop} {s : Shared} {Q : Value → Shared → Prop} {h₀ : Heap} {L : Addr} {news : List (Addr × Obj)}
theorem len_rep {D : Addr} {c k : Nat} {v : Value} (N : News h₀ L s.heap news) (hm : (D, listOf (List.replicate c v).toArray k) ∈ news) (hc : c ≤ 1000000) (h : Q (.int (c : Int) (s.toks + 1)) { s with toks := s.toks + 1 + 1 }) :
    wpAny (model prog w) A (call (.builtin "len") [.ref D]) Q E s := by
  have e : (List.replicate c v).toArray.size = c := by simp
  exact PyProof.Rows.len_list ⟨_, (N _ hm).1, rfl, k, rfl⟩ (by rw [e]; omega) (by rw [e]; exact h)
theorem len_lst {D : Addr} {vs : List Value} {k : Nat} (N : News h₀ L s.heap news) (hm : (D, listOf vs.toArray k) ∈ news) (hc : vs.length ≤ 1000000) (h : Q (.int (vs.length : Int) (s.toks + 1)) { s with toks := s.toks + 1 + 1 }) :
    wpAny (model prog w) A (call (.builtin "len") [.ref D]) Q E s := by
  have e : vs.toArray.size = vs.length := by simp
  exact PyProof.Rows.len_list ⟨_, (N _ hm).1, rfl, k, rfl⟩ (by rw [e]; omega) (by rw [e]; exact h)
theorem truthy_lst {D : Addr} {vs : List Value} {k : Nat} {Q : Bool → Shared → Prop} (N : News h₀ L s.heap news) (hm : (D, listOf vs.toArray k) ∈ news) (hc : vs.length ≤ 1000000) (h : Q (decide (0 < vs.length)) { s with toks := s.toks + 1 + 1 }) :
    wpAny (model prog w) A (truthy (.ref D)) Q E s := by
  refine wpAny_truthy_list (items := vs.toArray) ⟨_, (N _ hm).1, rfl, k, rfl⟩ ?_ ?_
  · have e : vs.toArray.size = vs.length := by simp
    rw [e]; omega
  · have e2 : (!vs.toArray.isEmpty) = decide (0 < vs.length) := by cases vs <;> simp
    rw [e2]; exact h
end
end Mine

local macro_rules | `(tactic| walk_at "call ref") => `(tactic| (k_here; (first
  | (with_reducible show wpAny _ _ (call (Value.ref 21) _) _ _ _)
  | (with_reducible show wpAny _ _ (call (Value.ref 28) _) _ _ _)
  | (with_reducible show wpAny _ _ (call (Value.ref 35) _) _ _ _)
  | (with_reducible show wpAny _ _ (call (Value.ref 42) _) _ _ _)
  | (with_reducible show wpAny _ _ (call (Value.ref 49) _) _ _ _)); (refine Mine.Stop.out ?_)))
local macro_rules | `(tactic| walk_at "call builtin:divmod") => `(tactic| (k_here; (with_reducible show wpAny _ _ (call (Value.builtin _) [Value.int _ _, Value.int _ _]) _ _ _); (refine divmod_N (by assumption) (by assumption) ?_ ?_ (Or.inl (Mine.np_bits ?_))); (first | omega | assumption); rotate_left; (first | assumption | omega); intro _ _ _))
local macro_rules | `(tactic| bits_by_make) => `(tactic| first | assumption | exact Mine.bits_pow _)
local macro_rules | `(tactic| walk_at "binaryOp LShift int int") => `(tactic| (k_here; (with_reducible refine Mine.lsh_nat (by bits_by_make) (by omega) ?_)))
local macro_rules | `(tactic| walk_at "binaryOp LShift int int") => `(tactic| (k_here; (with_reducible refine Mine.lsh_one (by omega) ?_)))
local macro_rules | `(tactic| walk_at "binaryOp RShift int int") => `(tactic| (k_here; (with_reducible refine Mine.rsh_nat ?_)))
local macro_rules | `(tactic| walk_at "binaryOp RShift int int") => `(tactic| (k_here; (with_reducible refine Mine.rsh_half ?_)))
local macro_rules | `(tactic| walk_at "inplaceOp LShift int int") => `(tactic| (k_here; (with_reducible refine Mine.ilsh_one (by bits_by_make) (by omega) ?_)))
local macro_rules | `(tactic| walk_at "inplaceOp RShift int int") => `(tactic| (k_here; (with_reducible refine Mine.irsh_one ?_)))
local macro_rules | `(tactic| walk_at "inplaceOp Add int int") => `(tactic| (k_here; (with_reducible refine Mine.iadd_one ?_)))
local macro_rules | `(tactic| walk_at "binaryOp BitAnd int int") => `(tactic| (k_here; (with_reducible refine Mine.and_one ?_)))
local macro_rules | `(tactic| walk_at "binaryOp BitAnd int int") => `(tactic| (k_here; (with_reducible refine Mine.and_mask ?_)))
local macro_rules | `(tactic| walk_at "binaryOp BitOr int int") => `(tactic| (k_here; (with_reducible refine Mine.or_disj (by assumption) (by assumption) ?_)))
local macro_rules | `(tactic| walk_at "binaryOp BitXor int int") => `(tactic| (k_here; (with_reducible refine Mine.xor_low ?_)))
local macro_rules | `(tactic| walk_at "binaryOp Mult int int") => `(tactic| (k_here; (with_reducible refine Mine.mul_ok (by bits_by_make) (by bits_by_make) (by omega) ?_)))

namespace Mine
open Builtin.Int (intBits)
section
variable {prog : Program} {w : World} {p : Program} {loose : List Str} {mean : ExcName → Option Value} {mg mb : Str → Option Value}

theorem c1 (a b n : Int) (ta tb tn : Tok) (hb : 0 < b) (hbb : intBits b ≤ 8000) (ha : (intBits a : Int) - n ≤ 4000) :
    Told2 prog w p loose mean mg mb 21 [.int a ta, .int b tb, .int n tn] 2 20 (OutPair (a.fdiv b) (a.fmod b)) := by
  unfold Told2
  intro dp un gd cn cs ad ccd cl outer A₀ base h₀ L m news s Q E B F X N T hk hd hu hret
  refine wpAny_call ?_
  k_dflt ktr_enter
  k_steps
  refine hret _ _ _ _ (by assumption) (by assumption) ⟨_, _, _, rfl, rfl, fun q hq => ?_⟩
  rename News _ _ _ news => N1
  exact Heap.lt_size (N1 q hq).1
end
end Mine

namespace Mine
open Builtin.Int (intBits)
section
variable {prog : Program} {w : World} {p : Program} {loose : List Str} {mean : ExcName → Option Value} {mg mb : Str → Option Value}

theorem c2 (a12 a3 b b1 b2 : Int) (ta tb tc td te tn : Tok) (k : Nat) (hk : k ≤ 4000) (hb : b = b1 * 2 ^ k + b2) (h2 : 0 ≤ b2) (h2' : b2 < 2 ^ k) (h1 : 0 < b1) (h1' : b1 < 2 ^ k) (ha : 0 ≤ a12) (ha' : a12 < b) (h3 : 0 ≤ a3) (h3' : a3 < 2 ^ k) :
    Told2 prog w p loose mean mg mb 28 [.int a12 ta, .int a3 tb, .int b tc, .int b1 td, .int b2 te, .int (k : Int) tn] 4 40 (OutPair ((a12 * 2 ^ k + a3).fdiv b) ((a12 * 2 ^ k + a3).fmod b)) := by
  have z1 : intBits b1 ≤ k := bits_lt (Int.le_of_lt h1) h1'
  have z2 : intBits b2 ≤ k := bits_lt h2 h2'
  have z3 : intBits a3 ≤ k := bits_lt h3 h3'
  have hp := kbt_pos k
  have hb2 : b < 2 ^ (k + k) := by
    have e : (b1 + 1) * 2 ^ k ≤ 2 ^ k * 2 ^ k := Int.mul_le_mul_of_nonneg_right (by omega) (Int.le_of_lt hp)
    rw [Int.add_mul] at e
    rw [Int.pow_add]
    omega
  have hb0 : 0 < b := by
    have := Int.mul_pos h1 hp
    omega
  have z4 : intBits b ≤ k + k := bits_lt (Int.le_of_lt hb0) hb2
  have z5 : intBits a12 ≤ k + k := bits_lt ha (Int.lt_trans ha' hb2)
  unfold Told2
  intro dp un gd cn cs ad ccd cl outer A₀ base h₀ L m news s Q E B F X N T hks hd hu hret
  k_with "exec While Compare cons nil" => k_while (fun _ q r => r + q * b = a12 * 2 ^ k + a3 ∧ r < b) (fun _ q r => (-r).toNat) "q" "r"
  k_with "state" => first | exact d3_turn (by assumption) (by assumption) (by assumption) (by assumption) | exact d3_eq (by assumption) (by assumption) (by assumption) (by assumption) (by assumption) | exact d3_ne (by assumption) (by assumption) (by assumption) (by assumption) (by assumption) (by assumption)
  refine wpAny_call ?_
  k_dflt ktr_enter
  k_steps
  · obtain ⟨rfl, rfl⟩ := d3_end (by assumption) (by assumption) (by assumption) (by assumption)
    refine pair_end hret (by assumption) (by assumption) (by k_mem) (fun p hp => by repeat (first | exact hp | refine List.mem_cons_of_mem _ ?_)) (by first | exact allLt_mem (And.right (by assumption)) | exact allLt_mem (And.right (And.right (by assumption))))
  · refine Stop.go ?_
    refine pair_use (c1 _ _ _ _ _ _ h1 (by omega) (by omega)) (by k_asm) (by k_asm) (by k_asm) (by k_asm) (by k_asm) rfl (by ktr_room) (by ktr_units) ?_
    intro q9 t9 u9 h9 tk9 F9 N9 l9
    k_steps
    obtain ⟨rfl, rfl⟩ := d3_end (by assumption) (by assumption) (by assumption) (by assumption)
    refine pair_end hret (by assumption) (by assumption) (by k_mem) (fun p hp => by repeat (first | exact hp | refine List.mem_cons_of_mem _ ?_)) (by first | exact allLt_mem (And.right (by assumption)) | exact allLt_mem (And.right (And.right (by assumption))))
end
end Mine

namespace Mine
open Builtin.Int (intBits)
section
variable {prog : Program} {w : World} {p : Program} {loose : List Str} {mean : ExcName → Option Value} {mg mb : Str → Option Value}

theorem c3 (a b : Int) (n : Nat) (ta tb tn : Tok) (hn : 1 ≤ n) (hn' : n ≤ 7000) (hb : 2 ^ (n - 1) ≤ b) (hb' : b < 2 ^ n) (ha : 0 ≤ a) (ha' : a < 2 ^ n * b) :
    Told2 prog w p loose mean mg mb 21 [.int a ta, .int b tb, .int (n : Int) tn] 6 60 (OutPair (a.fdiv b) (a.fmod b)) := by
  have hN := kbt_pos n
  have hb0 : 0 < b := by
    have := kbt_pos (n - 1)
    omega
  have z1 : intBits b ≤ n := bits_lt (Int.le_of_lt hb0) hb'
  have z2 : intBits a ≤ n + n := by
    refine bits_lt ha ?_
    have e : (2 : Int) ^ n * b ≤ 2 ^ n * 2 ^ n := Int.mul_le_mul_of_nonneg_left (Int.le_of_lt hb') (Int.le_of_lt hN)
    rw [Int.pow_add]; omega
  by_cases hleaf : (intBits a : Int) - n ≤ 4000
  · intro dp un gd cn cs ad ccd cl outer A₀ base h₀ L m news s Q E B F X N T hks hd hu hret
    exact c1 a b n ta tb tn hb0 (by omega) hleaf _ _ _ _ _ _ _ _ _ _ _ _ _ _ _ _ _ _ B F X N T hks (by omega) (by omega) hret
  · intro dp un gd cn cs ad ccd cl outer A₀ base h₀ L m news s Q E B F X N T hks hd hu hret
    refine wpAny_call ?_
    k_dflt ktr_enter
    k_steps
    · have hpar : n % 2 = 1 := by omega
      have e2 : (2 : Int) ^ (n + 1) = 2 ^ n * 2 := Int.pow_succ ..
      have pre := d2_pre (a := a * 2) (b := b * 2) (n := n + 1) (j := (n + 1) / 2) (by omega) (by omega)
        (by have e : (2 : Int) ^ (n + 1 - 1) = 2 ^ (n - 1) * 2 := by rw [show n + 1 - 1 = n - 1 + 1 by omega, Int.pow_succ]
            omega) (by omega) (by omega) (by rw [e2, Int.mul_assoc, ← Int.mul_assoc 2 b 2, Int.mul_comm 2 b, ← Int.mul_assoc, ← Int.mul_assoc]; omega)
      have post := d2_post (a := a * 2) (b := b * 2) (kbt_pos ((n + 1) / 2)) (by omega)
      obtain ⟨p1, p2, p3, p4, p5, p6, p7, p8, p9, p10⟩ := pre
      obtain ⟨o1, o2, o3, o4⟩ := post
      have o5 := pad_out (a := a) hb0
      rw [← o5.1, ← o5.2, o3, o4] at hret
      have C := c2 (prog := prog) (w := w) (p := p) (loose := loose) (mean := mean) (mg := mg) (mb := mb)
      refine Stop.go ?_
      refine pair_use (C _ _ _ _ _ _ _ _ _ _ _ ((n + 1) / 2) (by omega) p1 p2 p3 p4 p5 p6 p7 p8 p9) (by k_asm) (by k_asm) (by k_asm) (by k_asm) (by k_asm) rfl (by ktr_room) (by ktr_units) ?_
      intro q9 t9 u9 h9 tk9 F9 N9 l9
      rw [p10] at N9
      k_steps
      have r1 := frest (x := (a * 2).fdiv (2 ^ ((n + 1) / 2))) (b := b * 2) (by omega)
      have r2 := frest (x := a * 2) (kbt_pos ((n + 1) / 2))
      refine Stop.go ?_
      refine pair_use (C _ _ _ _ _ _ _ _ _ _ _ ((n + 1) / 2) (by omega) p1 p2 p3 p4 p5 r1.1 r1.2 r2.1 r2.2) (by k_asm) (by k_asm) (by k_asm) (by k_asm) (by k_asm) rfl (by ktr_room) (by ktr_units) ?_
      intro q8 t8 u8 h8 tk8 F8 N8 l8
      k_steps
      all_goals first | (exfalso; omega) | refine pair_end hret (by assumption) (by assumption) (by k_mem) (fun p hp => by repeat (first | exact hp | refine List.mem_cons_of_mem _ ?_)) (by first | exact allLt_mem (And.right (by assumption)) | exact allLt_mem (And.right (And.right (by assumption))) | exact allLt_mem (And.right (And.right (And.right (by assumption)))))
    · have pre := d2_pre (n := n) (j := n / 2) (by omega) (by omega) hb hb' ha ha'
      have post := d2_post (a := a) (b := b) (kbt_pos (n / 2)) hb0
      obtain ⟨p1, p2, p3, p4, p5, p6, p7, p8, p9, p10⟩ := pre
      obtain ⟨o1, o2, o3, o4⟩ := post
      rw [o3, o4] at hret
      have C := c2 (prog := prog) (w := w) (p := p) (loose := loose) (mean := mean) (mg := mg) (mb := mb)
      refine Stop.go ?_
      refine pair_use (C _ _ _ _ _ _ _ _ _ _ _ (n / 2) (by omega) p1 p2 p3 p4 p5 p6 p7 p8 p9) (by k_asm) (by k_asm) (by k_asm) (by k_asm) (by k_asm) rfl (by ktr_room) (by ktr_units) ?_
      intro q9 t9 u9 h9 tk9 F9 N9 l9
      rw [p10] at N9
      k_steps
      have r1 := frest (x := a.fdiv (2 ^ (n / 2))) (b := b) (by omega)
      have r2 := frest (x := a) (kbt_pos (n / 2))
      refine Stop.go ?_
      refine pair_use (C _ _ _ _ _ _ _ _ _ _ _ (n / 2) (by omega) p1 p2 p3 p4 p5 r1.1 r1.2 r2.1 r2.2) (by k_asm) (by k_asm) (by k_asm) (by k_asm) (by k_asm) rfl (by ktr_room) (by ktr_units) ?_
      intro q8 t8 u8 h8 tk8 F8 N8 l8
      k_steps
      all_goals first | (exfalso; omega) | refine pair_end hret (by assumption) (by assumption) (by k_mem) (fun p hp => by repeat (first | exact hp | refine List.mem_cons_of_mem _ ?_)) (by first | exact allLt_mem (And.right (by assumption)) | exact allLt_mem (And.right (And.right (by assumption))) | exact allLt_mem (And.right (And.right (And.right (by assumption)))))
end
end Mine

namespace Mine
open Builtin.Int (intBits)
section
local macro_rules | `(tactic| walk_at "call ref") => `(tactic| (k_here; (refine Mine.Stop.out ?_)))
local macro_rules | `(tactic| walk_at "binaryOp Add int int") => `(tactic| (k_here; (with_reducible refine Mine.add_nat ?_)))
local macro_rules | `(tactic| walk_at "binaryOp Sub int int") => `(tactic| (k_here; (with_reducible refine Mine.sub_nat (by omega) ?_)))
local macro_rules | `(tactic| walk_at "binaryOp Mult int int") => `(tactic| (k_here; (with_reducible refine Mine.mul_nat (by omega) ?_)))
local macro_rules | `(tactic| k_mem) => `(tactic| first | assumption | exact List.Mem.head _ | (refine List.mem_cons_of_mem _ ?_; k_mem))
local macro_rules | `(tactic| k_all) => `(tactic| assumption)
local macro_rules | `(tactic| walk_at "eval Name") => `(tactic| (k_here; kc_free; k_dflt (refine' nameX_F ?N ?c ?m ?d ?_ ?a ?b; (case a => rfl); (case b => rfl); (case N => k_asm); (case c => rfl); (case m => k_mem); (case d => k_asm); k_whole)))
variable {prog : Program} {w : World} {p : Program} {loose : List Str} {mean : ExcName → Option Value} {mg mb : Str → Option Value}

set_option maxHeartbeats 1000000 in
theorem c4 {oc35 : Value} {od35 : Option Addr} {name35 qual35 : Str} {params35 : Arguments} {scope35 : Scope} {st0 : Stmt} {rest35 : List Stmt} {dV kV doc35 pm35 : Value} {an : Option Addr} {cdv35 ct : Value} {osl : Array (Option Value)} {nm : Str} {ps : Arguments} {body : List Stmt} {sc : Scope} {pos : Pos} {qual : Str} {doc pm ctv : Value} {c' f cA cI cN ax : Addr} {oc oA oI oN : Obj} {vsC : Array Value} {tq : Tok} {n : Nat} {tn : Tok}
    (hL : (Mine.hd.heap_39 w.params).lookup 35 = some ⟨oc35, od35, .func (fnOf name35 qual35 params35 (st0 :: .FunctionDef nm ps body [] none [] sc none nm pos :: rest35) scope35 dV kV doc35 pm35 an cdv35 ct), osl⟩)
    (hn : 1 ≤ n) :
    ∀ (d : Nat) (lo hi : Nat) (x : Int) (tx tl th : Tok) (vs : List Value) (ns : List Int) (k : Nat)
      (dp un : Nat) (gd : Option (List Code)) (cn : Str) (cs : Scope) (ad : Addr) (ccd : Value) (cl : List (Str × Addr)) (outer : List Env) (A₀ : Around) (base h₀ : Heap) (L : Addr) (m : Str → Option Value) (news : List (Addr × Obj)) (s : Shared)
      (Q E : Value → Shared → Prop),
      lo < hi → hi - lo ≤ 2 ^ d → 0 ≤ x → x < 2 ^ ((hi - lo) * n) → (hi - lo) * n ≤ 100000 → hi ≤ ns.length → ns.length ≤ 100000 → IntsAre vs ns →
      Below A₀ base outer h₀ → Fr h₀ L s.heap m → (Mine.hd.heap_39 w.params).In h₀ → News h₀ L s.heap ((ax, listOf vs.toArray k) :: news) → Top p loose mean mg mb h₀ → cs.kind = .function → dp + d + 2 < recursionLimit → un + 8 * d + 20 < cLine →
      (∀ q ∈ news, q.1 ≠ ax) → (f, fnMade nm qual ps body sc [(Str.ofString "n", cN), (Str.ofString "inner", cI), (Str.ofString "a_digits", cA)] doc pm c' ctv) ∈ news → (c', oc) ∈ news → oc.data = .fields vsC → vsC[1]? = some (.str qual tq) →
      (cA, oA) ∈ news → oA.data = .cell (some (.ref ax)) → (cI, oI) ∈ news → oI.data = .cell (some (.ref f)) → (cN, oN) ∈ news → oN.data = .cell (some (.int (n : Int) tn)) →
      (∀ vs' h' tk', Fr h₀ L h' m → News h₀ L h' ((ax, listOf vs'.toArray k) :: news) → IntsAre vs' (splice ns lo (digs n (hi - lo) x)) → Q .none { s with heap := h', toks := tk' }) →
      wpAny (model prog w) (ktrTop dp un gd cn cs L ad ccd cl outer) (call (.ref f) [.int x tx, .int (lo : Int) tl, .int (hi : Int) th]) Q E s := by
  have e : some _ = some _ := Eq.trans (Eq.symm (by k_is)) hL
  clear hL
  cases e
  intro d
  induction d using Nat.strongRecOn with
  | ind d ih =>
    intro lo hi x tx tl th vs ns k dp un gd cn cs ad ccd cl outer A₀ base h₀ L m news s Q E hlt hd2 hx0 hx1 hsz hhi hlen hvs B F X N T hks hdp hun hne hf hc' hdc hvc hcA dA hcI dI hcN dN hret
    have hcd9 : CodeHd h₀ 34 30 := codeHd_of_K X (by kernel_rfl)
    have hbx : intBits x ≤ 100000 := Nat.le_trans (bits_lt hx0 hx1) hsz
    have hmid : ((lo + hi) / 2 - lo) * n ≤ (hi - lo) * n := Nat.mul_le_mul_right _ (by omega)
    refine wpAny_call ?_
    refine' code_nest (binds := [(Str.ofString "x", .int x tx), (Str.ofString "L", .int (lo : Int) tl), (Str.ofString "R", .int (hi : Int) th)]) ?k1 ?k2 ?k3 ?k4 ?k5 ?kA ?kF ?kK ?k6 ?k7 ?k8 ?k9 ?kB ?_ ?c2 ?c3 ?c4 ?c5
    case kA => exact rfl
    case kF => exact rfl
    case kK => assumption
    case k1 => k_asm
    case k2 => k_asm
    case k3 => k_asm
    case k4 => k_asm
    case k5 => k_asm
    case k6 => exact List.mem_cons_of_mem _ hf
    case k7 => exact codeRec_news N (List.mem_cons_of_mem _ hc') hdc hvc
    case k8 => ktr_room
    case k9 => exact BindsTo.of_eq rfl
    case c5 => decide
    case kB => exact locs rfl
    case c2 => exact rfl
    case c3 => exact rfl
    case c4 => exact rfl
    intro g' L' h' FG' F' N' B' X' T'
    (try dsimp only)
    (try k_fold)
    k_steps
    · have e9 : hi - lo = 1 := by omega
      rw [e9, Nat.one_mul] at hx1
      refine hret _ _ _ (by assumption) (by assumption) ?_
      rw [e9, digs_one hx0 hx1, ← splice_one (by omega)]
      assumption
    · have hlt2 : 1 < hi - lo := by omega
      have hd0 : d ≠ 0 := fun e => by subst e; rw [Nat.pow_zero] at hd2; omega
      obtain ⟨d, rfl⟩ := Nat.exists_eq_succ_of_ne_zero hd0
      have hd3 : hi - lo ≤ 2 * 2 ^ d := by rw [Nat.pow_succ] at hd2; omega
      have em : hi - lo = ((lo + hi) / 2 - lo) + (hi - (lo + hi) / 2) := by omega
      have em2 : (hi - lo) * n = ((lo + hi) / 2 - lo) * n + (hi - (lo + hi) / 2) * n := by rw [← Nat.add_mul, ← em]
      have eD := digs_add n ((lo + hi) / 2 - lo) (hi - (lo + hi) / 2) x
      rw [← em] at eD
      have r1 := frest (x := x) (kbt_pos (((lo + hi) / 2 - lo) * n))
      have l1 := digs_length n ((lo + hi) / 2 - lo) (x.fmod (2 ^ (((lo + hi) / 2 - lo) * n)))
      refine Stop.go ?_
      refine ih d (Nat.lt_succ_self d) lo ((lo + hi) / 2) _ _ _ _ vs ns k _ _ _ _ _ _ _ _ _ _ _ _ _ _ _ _ _ _ (by omega) (by omega) r1.1 r1.2 (by omega) (by omega) (by omega) hvs (by k_asm) (by k_asm) (by k_asm) (by k_asm) (by k_asm) rfl (by ktr_room) (by ktr_units) hne hf hc' hdc hvc hcA dA hcI dI hcN dN ?_
      intro vs1 h1 tk1 F1 N1 hvs1
      have l2 : (splice ns lo (digs n ((lo + hi) / 2 - lo) (x.fmod (2 ^ (((lo + hi) / 2 - lo) * n))))).length = ns.length := splice_length (by omega)
      k_steps
      refine Stop.go ?_
      refine ih d (Nat.lt_succ_self d) ((lo + hi) / 2) hi _ _ _ _ vs1 _ k _ _ _ _ _ _ _ _ _ _ _ _ _ _ _ _ _ _ (by omega) (by omega) (fquot (kbt_pos _) hx0) (fquot_lt (kbt_pos _) (by rw [← Int.pow_add, Nat.add_comm, ← em2]; exact hx1)) (by omega) (by omega) (by omega) hvs1 (by k_asm) (by k_asm) (by k_asm) (by k_asm) (by k_asm) rfl (by ktr_room) (by ktr_units) hne hf hc' hdc hvc hcA dA hcI dI hcN dN ?_
      intro vs2 h2 tk2 F2 N2 hvs2
      k_steps
      refine hret _ _ _ (by assumption) (by assumption) ?_
      have l3 := digs_length n (hi - (lo + hi) / 2) (x.fdiv (2 ^ (((lo + hi) / 2 - lo) * n)))
      have eS := splice_splice (ns := ns) (lo := lo) (ds := digs n ((lo + hi) / 2 - lo) (x.fmod (2 ^ (((lo + hi) / 2 - lo) * n)))) (es := digs n (hi - (lo + hi) / 2) (x.fdiv (2 ^ (((lo + hi) / 2 - lo) * n)))) (by omega)
      rw [l1, show lo + ((lo + hi) / 2 - lo) = (lo + hi) / 2 by omega] at eS
      rw [eD, ← eS]
      exact hvs2
end
end Mine

namespace Mine
open Builtin.Int (intBits)
section
local macro_rules | `(tactic| walk_at "call ref") => `(tactic| (k_here; (refine Mine.Stop.out ?_)))
local macro_rules | `(tactic| walk_at "binaryOp Add int int") => `(tactic| (k_here; (with_reducible refine Mine.add_nat ?_)))
local macro_rules | `(tactic| walk_at "binaryOp Sub int int") => `(tactic| (k_here; (with_reducible refine Mine.sub_one (by omega) ?_)))
local macro_rules | `(tactic| walk_at "binaryOp FloorDiv int int") => `(tactic| (k_here; (with_reducible refine Mine.div_nat (by omega) (by omega) ?_)))
local macro_rules | `(tactic| walk_at "binaryOp Mult ref int") => `(tactic| (k_here; (k_dflt (refine Mine.mul_rep (by k_asm) (by k_asm) (by k_mem) (by omega) ?_)); intro D' h' F' N' l1; (try k_lt l1)))
local macro_rules | `(tactic| walk_at "call builtin:len") => `(tactic| (k_here; (k_dflt (refine Mine.len_rep (by k_asm) (by k_mem) (by omega) ?_))))
local macro_rules | `(tactic| k_mem) => `(tactic| first | assumption | exact List.Mem.head _ | (refine List.mem_cons_of_mem _ ?_; k_mem))
local macro_rules | `(tactic| k_all) => `(tactic| first | assumption | exact Mine.allLt_ne (by assumption) (by omega))
local macro_rules | `(tactic| walk_at "eval Name") => `(tactic| (k_here; kc_free; k_dflt (refine' nameX_F ?N ?c ?m ?d ?_ ?a ?b; (case a => rfl); (case b => rfl); (case N => k_asm); (case c => rfl); (case m => k_mem); (case d => k_asm); k_whole)))
variable {prog : Program} {w : World} {p : Program} {loose : List Str} {mean : ExcName → Option Value} {mg mb : Str → Option Value}


theorem cnt_le (b n : Nat) (hn : 1 ≤ n) : b ≤ (b + n - 1) / n * n ∧ (b + n - 1) / n * n ≤ b + n - 1 ∧ (b + n - 1) / n ≤ b := by
  have h1 := Nat.div_add_mod (b + n - 1) n
  have h2 := Nat.mod_lt (b + n - 1) (show n > 0 by omega)
  have h3 := Nat.mul_comm n ((b + n - 1) / n)
  refine ⟨by omega, by omega, ?_⟩
  rcases Nat.eq_zero_or_pos b with h | h
  · rw [h, Nat.div_eq_of_lt (by omega)]; exact Nat.le_refl _
  · have e : b + n - 1 ≤ b * n + (n - 1) := by
      have := Nat.le_mul_of_pos_right b hn
      omega
    have e2 : b * n + (n - 1) < (b + 1) * n := by rw [Nat.add_mul, Nat.one_mul]; omega
    have := Nat.div_lt_of_lt_mul (m := b + n - 1) (n := n) (k := b + 1) (by rw [Nat.mul_comm]; omega)
    omega

def Out5 (a : Int) (n : Nat) (news : List (Addr × Obj)) (r : Value) (news' : List (Addr × Obj)) : Prop :=
  ∃ ax vs' k ps' rest', r = .ref ax ∧ news' = (ax, listOf (List.toArray vs') k) :: (30, tabObj ps') :: rest' ∧ (∀ p ∈ news, p ∈ rest') ∧ TabOk 32 4 q30 ps' rest' ∧ (∀ p ∈ rest', p.1 ≠ 30) ∧ (∀ p ∈ rest', p.1 ≠ ax) ∧ IntsAre vs' (digs n ((intBits a + n - 1) / n) a)
def St5 (D : Addr) (news rest : List (Addr × Obj)) : Prop :=
  ∃ ps' add, (30, tabObj ps') ∈ rest ∧ (∀ p ∈ add, p ∈ rest) ∧ (∀ p ∈ news, p ∈ add) ∧ TabOk 32 4 q30 ps' add ∧ (∀ p ∈ add, p.1 ≠ 30) ∧ (∀ p ∈ add, p.1 ≠ D)
theorem st5_new {g h : Heap} {L' : Addr} {f c D l cI cA cN : Nat} {fo oc lo l0 oI oA oN tb : Obj} {vs : Array Value} {t : Tok} {news : List (Addr × Obj)}
    (N : News g L' h ((f, fo) :: (c, oc) :: (D, lo) :: (l, l0) :: (cI, oI) :: (cA, oA) :: (cN, oN) :: (30, tb) :: news)) (htb : tb = tabObj #[rawInt 32, rawInt 4, .ref c]) (hd : oc.data = .fields vs) (hv : vs[1]? = some (.str q30 t))
    (l1 : D < c ∧ l < c ∧ cI < c ∧ cA < c ∧ cN < c ∧ 30 < c ∧ AllLt c news) (l2 : c < f) (l3 : l < D ∧ cI < D ∧ cA < D ∧ cN < D ∧ 30 < D ∧ AllLt D news) (hne : ∀ p ∈ news, p.1 ≠ 30) :
    ∃ rest, News g L' h ((D, lo) :: rest) ∧ (∀ p ∈ rest, p.1 ≠ D) ∧ (f, fo) ∈ rest ∧ (c, oc) ∈ rest ∧ (cI, oI) ∈ rest ∧ (cA, oA) ∈ rest ∧ (cN, oN) ∈ rest ∧ St5 D news rest := by
  refine ⟨(f, fo) :: (c, oc) :: (cI, oI) :: (cA, oA) :: (cN, oN) :: (30, tb) :: news, news_sub N ?_, ?_, by simp, by simp, by simp, by simp, by simp, _, (c, oc) :: news, ?_, ?_, ?_, ⟨.inr ⟨c, oc, vs, t, rfl, by simp, hd, hv⟩⟩, ?_, ?_⟩
  · intro p hp
    simp only [List.mem_cons] at hp ⊢
    rcases hp with h | h | h | h | h | h | h | h <;> simp [h]
  · refine List.forall_mem_cons.mpr ⟨by k_ne, List.forall_mem_cons.mpr ⟨by k_ne, List.forall_mem_cons.mpr ⟨by k_ne, List.forall_mem_cons.mpr ⟨by k_ne, List.forall_mem_cons.mpr ⟨by k_ne, List.forall_mem_cons.mpr ⟨by k_ne, ?_⟩⟩⟩⟩⟩⟩
    exact fun p hp => Nat.ne_of_lt (allLt_mem l3.2.2.2.2.2 p hp)
  · rw [htb]; simp
  · intro p hp
    simp only [List.mem_cons] at hp ⊢
    rcases hp with h | h <;> simp [h]
  · exact fun p hp => List.mem_cons_of_mem _ hp
  · exact List.forall_mem_cons.mpr ⟨by k_ne, hne⟩
  · exact List.forall_mem_cons.mpr ⟨by k_ne, fun p hp => Nat.ne_of_lt (allLt_mem l3.2.2.2.2.2 p hp)⟩
theorem st5_hit {g h : Heap} {L' : Addr} {f c D l cI cA cN : Nat} {fo oc lo l0 oI oA oN : Obj} {vs : Array Value} {t : Tok} {news : List (Addr × Obj)}
    (N : News g L' h ((f, fo) :: (D, lo) :: (l, l0) :: (cI, oI) :: (cA, oA) :: (cN, oN) :: (30, tabObj #[rawInt 32, rawInt 4, .ref c]) :: news)) (hc : (c, oc) ∈ news) (hd : oc.data = .fields vs) (hv : vs[1]? = some (.str q30 t))
    (l1 : D < f ∧ l < f ∧ cI < f ∧ cA < f ∧ cN < f ∧ 30 < f ∧ AllLt f news) (l3 : l < D ∧ cI < D ∧ cA < D ∧ cN < D ∧ 30 < D ∧ AllLt D news) (hne : ∀ p ∈ news, p.1 ≠ 30) :
    ∃ rest, News g L' h ((D, lo) :: rest) ∧ (∀ p ∈ rest, p.1 ≠ D) ∧ (f, fo) ∈ rest ∧ (c, oc) ∈ rest ∧ (cI, oI) ∈ rest ∧ (cA, oA) ∈ rest ∧ (cN, oN) ∈ rest ∧ St5 D news rest := by
  refine ⟨(f, fo) :: (cI, oI) :: (cA, oA) :: (cN, oN) :: (30, tabObj #[rawInt 32, rawInt 4, .ref c]) :: news, news_sub N ?_, ?_, by simp, by simp [hc], by simp, by simp, by simp, _, news, ?_, ?_, ?_, ⟨.inr ⟨c, oc, vs, t, rfl, hc, hd, hv⟩⟩, hne, ?_⟩
  · intro p hp
    simp only [List.mem_cons] at hp ⊢
    rcases hp with h | h | h | h | h | h | h <;> simp [h]
  · refine List.forall_mem_cons.mpr ⟨by k_ne, List.forall_mem_cons.mpr ⟨by k_ne, List.forall_mem_cons.mpr ⟨by k_ne, List.forall_mem_cons.mpr ⟨by k_ne, List.forall_mem_cons.mpr ⟨by k_ne, ?_⟩⟩⟩⟩⟩
    exact fun p hp => Nat.ne_of_lt (allLt_mem l3.2.2.2.2.2 p hp)
  · simp
  · intro p hp
    simp [hp]
  · exact fun p hp => hp
  · exact fun p hp => Nat.ne_of_lt (allLt_mem l3.2.2.2.2.2 p hp)
theorem out5_end {a : Int} {n : Nat} {h₀ h' : Heap} {L D : Addr} {m : Str → Option Value} {news rest : List (Addr × Obj)} {vs : List Value} {k tk' : Nat} {Q : Value → Shared → Prop} {s : Shared}
    (hret : ∀ r news' h' tk', Fr h₀ L h' m → News h₀ L h' news' → Out5 a n news r news' → Q r { s with heap := h', toks := tk' }) (F : Fr h₀ L h' m) (N : News h₀ L h' ((D, listOf vs.toArray k) :: rest)) (S : St5 D news rest)
    (hv : IntsAre vs (digs n ((intBits a + n - 1) / n) a)) : Q (.ref D) { s with heap := h', toks := tk' } := by
  obtain ⟨ps', add, s1, s2, s3, s4, s5, s6⟩ := S
  refine hret _ _ _ _ F (news_sub N ?_) ⟨D, vs, k, ps', add, rfl, rfl, s3, s4, s5, s6, hv⟩
  intro p hp
  rcases List.mem_cons.mp hp with rfl | hp
  · exact .head _
  · rcases List.mem_cons.mp hp with rfl | hp
    · exact .tail _ s1
    · exact .tail _ (s2 p hp)

theorem c5a (a : Int) (n : Nat) (ta tn : Tok) (hn : 1 ≤ n) (hn' : n ≤ 7000) (ha : 0 ≤ a) (hab : intBits a ≤ 20000)
   (dp un : Nat) (gd : Option (List Code)) (cn : Str) (cs : Scope) (ad : Addr) (ccd : Value) (cl : List (Str × Addr)) (outer : List Env) (A₀ : Around) (base h₀ : Heap) (L : Addr) (m : Str → Option Value) (news : List (Addr × Obj)) (s : Shared)
    (Q E : Value → Shared → Prop)
    (B : Below A₀ base outer h₀) (F : Fr h₀ L s.heap m) (X : (Mine.hd.heap_39 w.params).In h₀) (N : News h₀ L s.heap ((30, tabObj #[]) :: news)) (T : Top p loose mean mg mb h₀) (hks : cs.kind = .function) (hd : dp + 60 < recursionLimit) (hu : un + 400 < cLine)
    (hne : ∀ p ∈ news, p.1 ≠ 30)
    (hret : ∀ r news' h' tk', Fr h₀ L h' m → News h₀ L h' news' → Out5 a n news r news' → Q r { s with heap := h', toks := tk' }) :
    wpAny (model prog w) (ktrTop dp un gd cn cs L ad ccd cl outer) (call (.ref 35) [.int a ta, .int (n : Int) tn]) Q E s := by
  obtain ⟨hq1, hq2, hq3⟩ := cnt_le (intBits a) n hn
  refine wpAny_call ?_
  refine' code_defC (binds := [(Str.ofString "a", .int a ta), (Str.ofString "n", .int (n : Int) tn)]) ?k1 ?k2 ?k3 ?k4 ?k5 ?kA ?kF ?kK ?k6 ?k7 ?k8 ?k9 ?kB ?kD ?_ ?c2 ?c3 ?c4
  case kA => exact rfl
  case kF => exact rfl
  case kK => assumption
  case k1 => k_asm
  case k2 => k_asm
  case k3 => k_asm
  case k4 => k_asm
  case k5 => k_asm
  case k6 => k_is
  case k7 => k_is
  case k8 => ktr_room
  case k9 => exact BindsTo.of_eq rfl
  case kB => exact rfl
  case kD => decide +kernel
  case c2 => exact rfl
  case c3 => exact rfl
  case c4 => exact rfl
  intro g' L' h' tk' cells' FG' F' N' Y' B' X' T' l1
  (try k_lt l1)
  have hAL := l1.2
  have hcode : CodeHd g' 34 30 := codeHd_of_K X' (by kernel_rfl)
  k_cells Y'
  (try simp only [List.cons_append, List.nil_append] at N')
  (try dsimp only)
  (try k_fold)
  k_steps
  · obtain ⟨rest, Nr, r1, r2, r3, r4, r5, r6, r7⟩ := st5_new (by assumption) rfl (by assumption) (by assumption) (by assumption) (by assumption) (by assumption) hne
    have ha0 : 0 < a := by omega
    have hb1 := bits_ge ha0
    refine Stop.go ?_
    have hx : a < 2 ^ (((intBits a + n - 1) / n - 0) * n) := Int.lt_of_lt_of_le (lt_bits (Nat.le_refl _)).1 (pow_le (by omega))
    have hc0 : 0 < (intBits a + n - 1) / n := Nat.pos_of_ne_zero fun e => by rw [e] at hq1; omega
    refine c4 (n := n) (by k_is) hn 15 0 ((intBits a + n - 1) / n) a _ _ _ _ _ _ _ _ _ _ _ _ _ _ _ _ _ _ _ _ _ _ _ _ hc0 (by omega) ha hx (by rw [Nat.sub_zero]; omega) (by rw [List.length_replicate]; exact Nat.le_refl _) (by rw [List.length_replicate]; omega) (ints_rep _) (by k_asm) (by k_asm) (by k_asm) Nr (by k_asm) rfl (by ktr_room) (by ktr_units) r1 r2 r3 (by assumption) (by assumption) r5 (by assumption) r4 (by assumption) r6 (by assumption) ?_
    intro vs1 h1 tk1 F1 N1 hvs1
    k_steps
    refine out5_end hret (by assumption) (by assumption) r7 ?_
    rw [Nat.sub_zero, splice_all (by rw [List.length_replicate, digs_length])] at hvs1
    exact hvs1
  · obtain ⟨rest, Nr, r1, r2, r3, r4, r5, r6, r7⟩ := st5_new (by assumption) rfl (by assumption) (by assumption) (by assumption) (by assumption) (by assumption) hne
    have ha0 : a = 0 := by assumption
    subst ha0
    have e0 : (intBits 0 + n - 1) / n = 0 := Nat.div_eq_of_lt (by have : intBits 0 = 0 := rfl
                                                                  omega)
    refine out5_end hret (by assumption) Nr r7 ?_
    rw [e0]; exact .nil
theorem c5b (c9 : Nat) (oc9 : Obj) (vs9 : Array Value) (t9 : Tok) (a : Int) (n : Nat) (ta tn : Tok) (hn : 1 ≤ n) (hn' : n ≤ 7000) (ha : 0 ≤ a) (hab : intBits a ≤ 20000)
   (dp un : Nat) (gd : Option (List Code)) (cn : Str) (cs : Scope) (ad : Addr) (ccd : Value) (cl : List (Str × Addr)) (outer : List Env) (A₀ : Around) (base h₀ : Heap) (L : Addr) (m : Str → Option Value) (news : List (Addr × Obj)) (s : Shared)
    (Q E : Value → Shared → Prop)
    (B : Below A₀ base outer h₀) (F : Fr h₀ L s.heap m) (X : (Mine.hd.heap_39 w.params).In h₀) (N : News h₀ L s.heap ((30, tabObj #[rawInt 32, rawInt 4, .ref c9]) :: news)) (T : Top p loose mean mg mb h₀) (hks : cs.kind = .function) (hd : dp + 60 < recursionLimit) (hu : un + 400 < cLine)
    (hne : ∀ p ∈ news, p.1 ≠ 30) (hc9 : (c9, oc9) ∈ news) (hd9 : oc9.data = .fields vs9) (hv9 : vs9[1]? = some (.str q30 t9))
    (hret : ∀ r news' h' tk', Fr h₀ L h' m → News h₀ L h' news' → Out5 a n news r news' → Q r { s with heap := h', toks := tk' }) :
    wpAny (model prog w) (ktrTop dp un gd cn cs L ad ccd cl outer) (call (.ref 35) [.int a ta, .int (n : Int) tn]) Q E s := by
  obtain ⟨hq1, hq2, hq3⟩ := cnt_le (intBits a) n hn
  refine wpAny_call ?_
  refine' code_defC (binds := [(Str.ofString "a", .int a ta), (Str.ofString "n", .int (n : Int) tn)]) ?k1 ?k2 ?k3 ?k4 ?k5 ?kA ?kF ?kK ?k6 ?k7 ?k8 ?k9 ?kB ?kD ?_ ?c2 ?c3 ?c4
  case kA => exact rfl
  case kF => exact rfl
  case kK => assumption
  case k1 => k_asm
  case k2 => k_asm
  case k3 => k_asm
  case k4 => k_asm
  case k5 => k_asm
  case k6 => k_is
  case k7 => k_is
  case k8 => ktr_room
  case k9 => exact BindsTo.of_eq rfl
  case kB => exact rfl
  case kD => decide +kernel
  case c2 => exact rfl
  case c3 => exact rfl
  case c4 => exact rfl
  intro g' L' h' tk' cells' FG' F' N' Y' B' X' T' l1
  (try k_lt l1)
  have hAL := l1.2
  have hcode : CodeHd g' 34 30 := codeHd_of_K X' (by kernel_rfl)
  k_cells Y'
  (try simp only [List.cons_append, List.nil_append] at N')
  (try dsimp only)
  (try k_fold)
  k_steps
  · obtain ⟨rest, Nr, r1, r2, r3, r4, r5, r6, r7⟩ := st5_hit (by assumption) hc9 hd9 hv9 (by assumption) (by assumption) hne
    have ha0 : 0 < a := by omega
    have hb1 := bits_ge ha0
    refine Stop.go ?_
    have hx : a < 2 ^ (((intBits a + n - 1) / n - 0) * n) := Int.lt_of_lt_of_le (lt_bits (Nat.le_refl _)).1 (pow_le (by omega))
    have hc0 : 0 < (intBits a + n - 1) / n := Nat.pos_of_ne_zero fun e => by rw [e] at hq1; omega
    refine c4 (n := n) (by k_is) hn 15 0 ((intBits a + n - 1) / n) a _ _ _ _ _ _ _ _ _ _ _ _ _ _ _ _ _ _ _ _ _ _ _ _ hc0 (by omega) ha hx (by rw [Nat.sub_zero]; omega) (by rw [List.length_replicate]; exact Nat.le_refl _) (by rw [List.length_replicate]; omega) (ints_rep _) (by k_asm) (by k_asm) (by k_asm) Nr (by k_asm) rfl (by ktr_room) (by ktr_units) r1 r2 r3 (by assumption) (by assumption) r5 (by assumption) r4 (by assumption) r6 (by assumption) ?_
    intro vs1 h1 tk1 F1 N1 hvs1
    k_steps
    refine out5_end hret (by assumption) (by assumption) r7 ?_
    rw [Nat.sub_zero, splice_all (by rw [List.length_replicate, digs_length])] at hvs1
    exact hvs1
  · obtain ⟨rest, Nr, r1, r2, r3, r4, r5, r6, r7⟩ := st5_hit (by assumption) hc9 hd9 hv9 (by assumption) (by assumption) hne
    have ha0 : a = 0 := by assumption
    subst ha0
    have e0 : (intBits 0 + n - 1) / n = 0 := Nat.div_eq_of_lt (by have : intBits 0 = 0 := rfl
                                                                  omega)
    refine out5_end hret (by assumption) Nr r7 ?_
    rw [e0]; exact .nil
theorem c5 {a : Int} {n : Nat} {ta tn : Tok} {dp un : Nat} {gd : Option (List Code)} {cn : Str} {cs : Scope} {ad : Addr} {ccd : Value} {cl : List (Str × Addr)} {outer : List Env} {A₀ : Around} {base h₀ : Heap} {L : Addr} {m : Str → Option Value} {news : List (Addr × Obj)} {s : Shared} {ps : Array Value}
    {Q E : Value → Shared → Prop} (hn : 1 ≤ n) (hn' : n ≤ 7000) (ha : 0 ≤ a) (hab : intBits a ≤ 20000)
    (B : Below A₀ base outer h₀) (F : Fr h₀ L s.heap m) (X : (Mine.hd.heap_39 w.params).In h₀) (N : News h₀ L s.heap ((30, tabObj ps) :: news)) (T : Top p loose mean mg mb h₀) (hks : cs.kind = .function) (hd : dp + 60 < recursionLimit) (hu : un + 400 < cLine)
    (hne : ∀ p ∈ news, p.1 ≠ 30) (hT : TabOk 32 4 q30 ps news)
    (hret : ∀ r news' h' tk', Fr h₀ L h' m → News h₀ L h' news' → Out5 a n news r news' → Q r { s with heap := h', toks := tk' }) :
    wpAny (model prog w) (ktrTop dp un gd cn cs L ad ccd cl outer) (call (.ref 35) [.int a ta, .int (n : Int) tn]) Q E s := by
  rcases hT.ok with rfl | ⟨c, oc, vs, t, rfl, hc, hd1, hv⟩
  · exact c5a a n ta tn hn hn' ha hab _ _ _ _ _ _ _ _ _ _ _ _ _ _ _ _ _ _ B F X N T hks hd hu hne hret
  · exact c5b c oc vs t a n ta tn hn hn' ha hab _ _ _ _ _ _ _ _ _ _ _ _ _ _ _ _ _ _ B F X N T hks hd hu hne hc hd1 hv hret
end
end Mine

namespace Mine
open Builtin.Int (intBits)
section
local macro_rules | `(tactic| walk_at "call ref") => `(tactic| (k_here; (refine Mine.Stop.out ?_)))
local macro_rules | `(tactic| walk_at "binaryOp Add int int") => `(tactic| (k_here; (with_reducible refine Mine.add_nat ?_)))
local macro_rules | `(tactic| walk_at "binaryOp Sub int int") => `(tactic| (k_here; (with_reducible refine Mine.sub_nat (by omega) ?_)))
local macro_rules | `(tactic| walk_at "binaryOp Mult int int") => `(tactic| (k_here; (with_reducible refine Mine.mul_nat (by omega) ?_)))
local macro_rules | `(tactic| k_mem) => `(tactic| first | assumption | exact List.Mem.head _ | (refine List.mem_cons_of_mem _ ?_; k_mem))
local macro_rules | `(tactic| k_all) => `(tactic| assumption)
local macro_rules | `(tactic| walk_at "eval Name") => `(tactic| (k_here; kc_free; k_dflt (refine' nameX_F ?N ?c ?m ?d ?_ ?a ?b; (case a => rfl); (case b => rfl); (case N => k_asm); (case c => rfl); (case m => k_mem); (case d => k_asm); k_whole)))
variable {prog : Program} {w : World} {p : Program} {loose : List Str} {mean : ExcName → Option Value} {mg mb : Str → Option Value}

theorem c6 {oc42 : Value} {od42 : Option Addr} {name42 qual42 : Str} {params42 : Arguments} {scope42 : Scope} {rest42 : List Stmt} {dV kV doc42 pm42 : Value} {an : Option Addr} {cdv42 ct : Value} {osl : Array (Option Value)} {nm : Str} {ps : Arguments} {body : List Stmt} {sc : Scope} {pos : Pos} {qual : Str} {doc pm ctv : Value} {c' f cA cI cN ax : Addr} {oc oA oI oN : Obj} {vsC : Array Value} {tq : Tok} {n : Nat} {tn : Tok} {vs : List Value} {ns : List Int} {k : Nat}
    (hL : (Mine.hd.heap_39 w.params).lookup 42 = some ⟨oc42, od42, .func (fnOf name42 qual42 params42 (.FunctionDef nm ps body [] none [] sc none nm pos :: rest42) scope42 dV kV doc42 pm42 an cdv42 ct), osl⟩)
    (hn : 1 ≤ n) (hlen : ns.length ≤ 100000) (hvs : IntsAre vs ns) (hbd : ∀ d ∈ ns, 0 ≤ d ∧ d < 2 ^ n) :
    ∀ (d : Nat) (lo hi : Nat) (tl th : Tok)
      (dp un : Nat) (gd : Option (List Code)) (cn : Str) (cs : Scope) (ad : Addr) (ccd : Value) (cl : List (Str × Addr)) (outer : List Env) (A₀ : Around) (base h₀ : Heap) (L : Addr) (m : Str → Option Value) (news : List (Addr × Obj)) (s : Shared)
      (Q E : Value → Shared → Prop),
      lo < hi → hi - lo ≤ 2 ^ d → (hi - lo) * n ≤ 100000 → hi ≤ ns.length →
      Below A₀ base outer h₀ → Fr h₀ L s.heap m → (Mine.hd.heap_39 w.params).In h₀ → News h₀ L s.heap news → Top p loose mean mg mb h₀ → cs.kind = .function → dp + d + 2 < recursionLimit → un + 8 * d + 20 < cLine →
      (ax, listOf vs.toArray k) ∈ news → (f, fnMade nm qual ps body sc [(Str.ofString "n", cN), (Str.ofString "inner", cI), (Str.ofString "digits", cA)] doc pm c' ctv) ∈ news → (c', oc) ∈ news → oc.data = .fields vsC → vsC[1]? = some (.str qual tq) →
      (cA, oA) ∈ news → oA.data = .cell (some (.ref ax)) → (cI, oI) ∈ news → oI.data = .cell (some (.ref f)) → (cN, oN) ∈ news → oN.data = .cell (some (.int (n : Int) tn)) →
      (∀ t' h' tk', Fr h₀ L h' m → News h₀ L h' news → Q (.int (und n (cut ns lo hi)) t') { s with heap := h', toks := tk' }) →
      wpAny (model prog w) (ktrTop dp un gd cn cs L ad ccd cl outer) (call (.ref f) [.int (lo : Int) tl, .int (hi : Int) th]) Q E s := by
  have e : some _ = some _ := Eq.trans (Eq.symm (by k_is)) hL
  clear hL
  cases e
  intro d
  induction d using Nat.strongRecOn with
  | ind d ih =>
    intro lo hi tl th dp un gd cn cs ad ccd cl outer A₀ base h₀ L m news s Q E hlt hd2 hsz hhi B F X N T hks hdp hun hax hf hc' hdc hvc hcA dA hcI dI hcN dN hret
    have hcd9 : CodeHd h₀ 41 37 := codeHd_of_K X (by kernel_rfl)
    have hmid : ((lo + hi) / 2 - lo) * n ≤ (hi - lo) * n := Nat.mul_le_mul_right _ (by omega)
    refine wpAny_call ?_
    refine' code_nest (binds := [(Str.ofString "L", .int (lo : Int) tl), (Str.ofString "R", .int (hi : Int) th)]) ?k1 ?k2 ?k3 ?k4 ?k5 ?kA ?kF ?kK ?k6 ?k7 ?k8 ?k9 ?kB ?_ ?c2 ?c3 ?c4 ?c5
    case kA => exact rfl
    case kF => exact rfl
    case kK => assumption
    case k1 => k_asm
    case k2 => k_asm
    case k3 => k_asm
    case k4 => k_asm
    case k5 => k_asm
    case k6 => exact hf
    case k7 => exact codeRec_news N hc' hdc hvc
    case k8 => ktr_room
    case k9 => exact BindsTo.of_eq rfl
    case c5 => decide
    case kB => exact locs rfl
    case c2 => exact rfl
    case c3 => exact rfl
    case c4 => exact rfl
    intro g' L' h' FG' F' N' B' X' T'
    (try dsimp only)
    (try k_fold)
    k_steps
    · have e9 : hi = lo + 1 := by omega
      subst e9
      have h9 : und n (cut ns lo (lo + 1)) = ns.getD lo 0 := by
        rw [cut_one (by omega)]
        show ns.getD lo 0 + 2 ^ n * 0 = ns.getD lo 0
        rw [Int.mul_zero, Int.add_zero]
      rw [h9] at hret
      exact hret _ _ _ (by assumption) (by assumption)
    · have hlt2 : 1 < hi - lo := by omega
      have hd0 : d ≠ 0 := fun e => by subst e; rw [Nat.pow_zero] at hd2; omega
      obtain ⟨d, rfl⟩ := Nat.exists_eq_succ_of_ne_zero hd0
      have hd3 : hi - lo ≤ 2 * 2 ^ d := by rw [Nat.pow_succ] at hd2; omega
      have em : hi - lo = ((lo + hi) / 2 - lo) + (hi - (lo + hi) / 2) := by omega
      have em2 : (hi - lo) * n = ((lo + hi) / 2 - lo) * n + (hi - (lo + hi) / 2) * n := by rw [← Nat.add_mul, ← em]
      have hb2 := und_bounds n (cut ns ((lo + hi) / 2) hi) fun d hd => hbd d (cut_mem hd)
      rw [cut_length hhi] at hb2
      have hbits : intBits (und n (cut ns ((lo + hi) / 2) hi)) ≤ 100000 := Nat.le_trans (bits_lt hb2.1 hb2.2) (by omega)
      refine Stop.go ?_
      refine ih d (Nat.lt_succ_self d) ((lo + hi) / 2) hi _ _ _ _ _ _ _ _ _ _ _ _ _ _ _ _ _ _ _ _ (by omega) (by omega) (by omega) hhi (by k_asm) (by k_asm) (by k_asm) (by k_asm) (by k_asm) rfl (by ktr_room) (by ktr_units) hax hf hc' hdc hvc hcA dA hcI dI hcN dN ?_
      intro t1 h1 tk1 F1 N1
      k_steps
      refine Stop.go ?_
      refine ih d (Nat.lt_succ_self d) lo ((lo + hi) / 2) _ _ _ _ _ _ _ _ _ _ _ _ _ _ _ _ _ _ _ _ (by omega) (by omega) (by omega) (by omega) (by k_asm) (by k_asm) (by k_asm) (by k_asm) (by k_asm) rfl (by ktr_room) (by ktr_units) hax hf hc' hdc hvc hcA dA hcI dI hcN dN ?_
      intro t2 h2 tk2 F2 N2
      k_steps
      have eU : und n (cut ns lo hi) = und n (cut ns ((lo + hi) / 2) hi) * 2 ^ (((lo + hi) / 2 - lo) * n) + und n (cut ns lo ((lo + hi) / 2)) := by
        rw [cut_split (ns := ns) (lo := lo) (mid := (lo + hi) / 2) (hi := hi) (by omega) (by omega), und_append, cut_length (by omega), Int.mul_comm (2 ^ (((lo + hi) / 2 - lo) * n))]
        omega
      rw [eU] at hret
      exact hret _ _ _ (by assumption) (by assumption)
end
end Mine

namespace Mine
open Builtin.Int (intBits)
section
local macro_rules | `(tactic| walk_at "call ref") => `(tactic| (k_here; (refine Mine.Stop.out ?_)))
local macro_rules | `(tactic| walk_at "call builtin:len") => `(tactic| (k_here; (k_dflt (refine Mine.len_lst (by k_asm) (by k_mem) (by omega) ?_))))
local macro_rules | `(tactic| walk_at "truthy ref") => `(tactic| (k_here; (k_dflt (refine Mine.truthy_lst (by k_asm) (by k_mem) (by omega) ?_))))
local macro_rules | `(tactic| k_mem) => `(tactic| first | assumption | exact List.Mem.head _ | (refine List.mem_cons_of_mem _ ?_; k_mem))
local macro_rules | `(tactic| k_all) => `(tactic| first | assumption | exact Mine.allLt_ne (by assumption) (by omega))
local macro_rules | `(tactic| walk_at "eval Name") => `(tactic| (k_here; kc_free; k_dflt (refine' nameX_F ?N ?c ?m ?d ?_ ?a ?b; (case a => rfl); (case b => rfl); (case N => k_asm); (case c => rfl); (case m => k_mem); (case d => k_asm); k_whole)))
variable {prog : Program} {w : World} {p : Program} {loose : List Str} {mean : ExcName → Option Value} {mg mb : Str → Option Value}

def Out7 (n : Nat) (ns : List Int) (news : List (Addr × Obj)) (r : Value) (news' : List (Addr × Obj)) : Prop :=
  ∃ t ps' rest', r = .int (und n ns) t ∧ news' = (37, tabObj ps') :: rest' ∧ (∀ p ∈ news, p ∈ rest') ∧ TabOk 47 4 q37 ps' rest' ∧ (∀ p ∈ rest', p.1 ≠ 37) ∧ (∀ p ∈ rest', p ∈ news ∨ ∃ vs, p.2.data = .fields vs ∧ (∃ q t, vs[1]? = some (.str q t)))
def St7 (news rest : List (Addr × Obj)) : Prop :=
  ∃ ps' add, (37, tabObj ps') ∈ rest ∧ (∀ p ∈ add, p ∈ rest) ∧ (∀ p ∈ news, p ∈ add) ∧ TabOk 47 4 q37 ps' add ∧ (∀ p ∈ add, p.1 ≠ 37) ∧ (∀ p ∈ add, p ∈ news ∨ ∃ vs, p.2.data = .fields vs ∧ (∃ q t, vs[1]? = some (.str q t)))
theorem st7_new {g h : Heap} {L' : Addr} {f c cI cA cN : Nat} {fo oc oI oA oN tb : Obj} {vs : Array Value} {t : Tok} {news : List (Addr × Obj)}
    (N : News g L' h ((f, fo) :: (c, oc) :: (cI, oI) :: (cN, oN) :: (cA, oA) :: (37, tb) :: news)) (htb : tb = tabObj #[rawInt 47, rawInt 4, .ref c]) (hd : oc.data = .fields vs) (hv : vs[1]? = some (.str q37 t))
    (l1 : cI < c ∧ cN < c ∧ cA < c ∧ 37 < c ∧ AllLt c news) (hne : ∀ p ∈ news, p.1 ≠ 37) :
    ∃ rest, News g L' h rest ∧ (∀ p ∈ news, p ∈ rest) ∧ (f, fo) ∈ rest ∧ (c, oc) ∈ rest ∧ (cI, oI) ∈ rest ∧ (cA, oA) ∈ rest ∧ (cN, oN) ∈ rest ∧ St7 news rest := by
  refine ⟨_, N, fun p hp => by simp [hp], by simp, by simp, by simp, by simp, by simp, _, (c, oc) :: news, ?_, ?_, ?_, ⟨.inr ⟨c, oc, vs, t, rfl, by simp, hd, hv⟩⟩, ?_, ?_⟩
  · rw [htb]; simp
  · intro p hp
    simp only [List.mem_cons] at hp ⊢
    rcases hp with h | h <;> simp [h]
  · exact fun p hp => List.mem_cons_of_mem _ hp
  · exact List.forall_mem_cons.mpr ⟨by k_ne, hne⟩
  · exact List.forall_mem_cons.mpr ⟨.inr ⟨vs, hd, _, _, hv⟩, fun p hp => .inl hp⟩
theorem st7_hit {g h : Heap} {L' : Addr} {f c cI cA cN : Nat} {fo oc oI oA oN : Obj} {vs : Array Value} {t : Tok} {news : List (Addr × Obj)}
    (N : News g L' h ((f, fo) :: (cI, oI) :: (cN, oN) :: (cA, oA) :: (37, tabObj #[rawInt 47, rawInt 4, .ref c]) :: news)) (hc : (c, oc) ∈ news) (hd : oc.data = .fields vs) (hv : vs[1]? = some (.str q37 t))
    (hne : ∀ p ∈ news, p.1 ≠ 37) :
    ∃ rest, News g L' h rest ∧ (∀ p ∈ news, p ∈ rest) ∧ (f, fo) ∈ rest ∧ (c, oc) ∈ rest ∧ (cI, oI) ∈ rest ∧ (cA, oA) ∈ rest ∧ (cN, oN) ∈ rest ∧ St7 news rest := by
  refine ⟨_, N, fun p hp => by simp [hp], by simp, by simp [hc], by simp, by simp, by simp, _, news, ?_, ?_, ?_, ⟨.inr ⟨c, oc, vs, t, rfl, hc, hd, hv⟩⟩, hne, fun p hp => .inl hp⟩
  · simp
  · intro p hp
    simp [hp]
  · exact fun p hp => hp
theorem out7_end {n : Nat} {ns : List Int} {h₀ h' : Heap} {L : Addr} {m : Str → Option Value} {news rest : List (Addr × Obj)} {t : Tok} {tk' : Nat} {Q : Value → Shared → Prop} {s : Shared} {x : Int}
    (hret : ∀ r news' h' tk', Fr h₀ L h' m → News h₀ L h' news' → Out7 n ns news r news' → Q r { s with heap := h', toks := tk' }) (F : Fr h₀ L h' m) (N : News h₀ L h' rest) (S : St7 news rest) (hx : x = und n ns) : Q (.int x t) { s with heap := h', toks := tk' } := by
  subst hx
  obtain ⟨ps', add, s1, s2, s3, s4, s5, s6⟩ := S
  refine hret _ _ _ _ F (news_sub N ?_) ⟨t, ps', add, rfl, rfl, s3, s4, s5, s6⟩
  intro p hp
  rcases List.mem_cons.mp hp with rfl | hp
  · exact s1
  · exact s2 p hp

theorem c7a (n : Nat) (tn : Tok) (ax : Nat) (vs : List Value) (ns : List Int) (k : Nat) (hn : 1 ≤ n) (hlen : ns.length ≤ 30000) (hsz : ns.length * n ≤ 100000) (hvs : IntsAre vs ns) (hbd : ∀ d ∈ ns, 0 ≤ d ∧ d < 2 ^ n)
   (dp un : Nat) (gd : Option (List Code)) (cn : Str) (cs : Scope) (ad : Addr) (ccd : Value) (cl : List (Str × Addr)) (outer : List Env) (A₀ : Around) (base h₀ : Heap) (L : Addr) (m : Str → Option Value) (news : List (Addr × Obj)) (s : Shared)
    (Q E : Value → Shared → Prop)
    (B : Below A₀ base outer h₀) (F : Fr h₀ L s.heap m) (X : (Mine.hd.heap_39 w.params).In h₀) (N : News h₀ L s.heap ((37, tabObj #[]) :: news)) (T : Top p loose mean mg mb h₀) (hks : cs.kind = .function) (hd : dp + 60 < recursionLimit) (hu : un + 400 < cLine)
    (hne : ∀ p ∈ news, p.1 ≠ 37) (hax : (ax, listOf vs.toArray k) ∈ news)
    (hret : ∀ r news' h' tk', Fr h₀ L h' m → News h₀ L h' news' → Out7 n ns news r news' → Q r { s with heap := h', toks := tk' }) :
    wpAny (model prog w) (ktrTop dp un gd cn cs L ad ccd cl outer) (call (.ref 42) [.ref ax, .int (n : Int) tn]) Q E s := by
  refine wpAny_call ?_
  refine' code_defC (binds := [(Str.ofString "digits", .ref ax), (Str.ofString "n", .int (n : Int) tn)]) ?k1 ?k2 ?k3 ?k4 ?k5 ?kA ?kF ?kK ?k6 ?k7 ?k8 ?k9 ?kB ?kD ?_ ?c2 ?c3 ?c4
  case kA => exact rfl
  case kF => exact rfl
  case kK => assumption
  case k1 => k_asm
  case k2 => k_asm
  case k3 => k_asm
  case k4 => k_asm
  case k5 => k_asm
  case k6 => k_is
  case k7 => k_is
  case k8 => ktr_room
  case k9 => exact BindsTo.of_eq rfl
  case kB => exact rfl
  case kD => decide +kernel
  case c2 => exact rfl
  case c3 => exact rfl
  case c4 => exact rfl
  intro g' L' h' tk' cells' FG' F' N' Y' B' X' T' l1
  (try k_lt l1)
  have hAL := l1.2
  have hcode : CodeHd g' 41 37 := codeHd_of_K X' (by kernel_rfl)
  k_cells Y'
  (try simp only [List.cons_append, List.nil_append] at N')
  (try dsimp only)
  (try k_fold)
  have hvl := hvs.length
  k_steps
  · obtain ⟨rest, Nr, r0, r2, r3, r4, r5, r6, r7⟩ := st7_new (by assumption) rfl (by assumption) (by assumption) (by assumption) hne
    have hpos : 0 < vs.length := by assumption
    refine Stop.go ?_
    rw [show ((vs.length : Nat) : Int) = ((ns.length : Nat) : Int) from by rw [hvl]]
    refine c6 (n := n) (by k_is) hn (by omega) hvs hbd 15 0 ns.length _ _ _ _ _ _ _ _ _ _ _ _ _ _ _ _ _ _ _ _ (by omega) (by omega) (by rw [Nat.sub_zero]; exact hsz) (Nat.le_refl _) (by k_asm) (by k_asm) (by k_asm) Nr (by k_asm) rfl (by ktr_room) (by ktr_units) (r0 _ hax) r2 r3 (by assumption) (by assumption) r5 (by assumption) r4 (by assumption) r6 (by assumption) ?_
    intro t1 h1 tk1 F1 N1
    k_steps
    exact out7_end hret (by assumption) (by assumption) r7 (by rw [cut_all])
  · obtain ⟨rest, Nr, r0, r2, r3, r4, r5, r6, r7⟩ := st7_new (by assumption) rfl (by assumption) (by assumption) (by assumption) hne
    have hnil : ns = [] := List.eq_nil_of_length_eq_zero (by omega)
    exact out7_end hret (by assumption) Nr r7 (by rw [hnil]; rfl)
theorem c7b (c9 : Nat) (oc9 : Obj) (vs9 : Array Value) (t9 : Tok) (n : Nat) (tn : Tok) (ax : Nat) (vs : List Value) (ns : List Int) (k : Nat) (hn : 1 ≤ n) (hlen : ns.length ≤ 30000) (hsz : ns.length * n ≤ 100000) (hvs : IntsAre vs ns) (hbd : ∀ d ∈ ns, 0 ≤ d ∧ d < 2 ^ n)
   (dp un : Nat) (gd : Option (List Code)) (cn : Str) (cs : Scope) (ad : Addr) (ccd : Value) (cl : List (Str × Addr)) (outer : List Env) (A₀ : Around) (base h₀ : Heap) (L : Addr) (m : Str → Option Value) (news : List (Addr × Obj)) (s : Shared)
    (Q E : Value → Shared → Prop)
    (B : Below A₀ base outer h₀) (F : Fr h₀ L s.heap m) (X : (Mine.hd.heap_39 w.params).In h₀) (N : News h₀ L s.heap ((37, tabObj #[rawInt 47, rawInt 4, .ref c9]) :: news)) (T : Top p loose mean mg mb h₀) (hks : cs.kind = .function) (hd : dp + 60 < recursionLimit) (hu : un + 400 < cLine)
    (hne : ∀ p ∈ news, p.1 ≠ 37) (hc9 : (c9, oc9) ∈ news) (hd9 : oc9.data = .fields vs9) (hv9 : vs9[1]? = some (.str q37 t9)) (hax : (ax, listOf vs.toArray k) ∈ news)
    (hret : ∀ r news' h' tk', Fr h₀ L h' m → News h₀ L h' news' → Out7 n ns news r news' → Q r { s with heap := h', toks := tk' }) :
    wpAny (model prog w) (ktrTop dp un gd cn cs L ad ccd cl outer) (call (.ref 42) [.ref ax, .int (n : Int) tn]) Q E s := by
  refine wpAny_call ?_
  refine' code_defC (binds := [(Str.ofString "digits", .ref ax), (Str.ofString "n", .int (n : Int) tn)]) ?k1 ?k2 ?k3 ?k4 ?k5 ?kA ?kF ?kK ?k6 ?k7 ?k8 ?k9 ?kB ?kD ?_ ?c2 ?c3 ?c4
  case kA => exact rfl
  case kF => exact rfl
  case kK => assumption
  case k1 => k_asm
  case k2 => k_asm
  case k3 => k_asm
  case k4 => k_asm
  case k5 => k_asm
  case k6 => k_is
  case k7 => k_is
  case k8 => ktr_room
  case k9 => exact BindsTo.of_eq rfl
  case kB => exact rfl
  case kD => decide +kernel
  case c2 => exact rfl
  case c3 => exact rfl
  case c4 => exact rfl
  intro g' L' h' tk' cells' FG' F' N' Y' B' X' T' l1
  (try k_lt l1)
  have hAL := l1.2
  have hcode : CodeHd g' 41 37 := codeHd_of_K X' (by kernel_rfl)
  k_cells Y'
  (try simp only [List.cons_append, List.nil_append] at N')
  (try dsimp only)
  (try k_fold)
  have hvl := hvs.length
  k_steps
  · obtain ⟨rest, Nr, r0, r2, r3, r4, r5, r6, r7⟩ := st7_hit (by assumption) hc9 hd9 hv9 hne
    have hpos : 0 < vs.length := by assumption
    refine Stop.go ?_
    rw [show ((vs.length : Nat) : Int) = ((ns.length : Nat) : Int) from by rw [hvl]]
    refine c6 (n := n) (by k_is) hn (by omega) hvs hbd 15 0 ns.length _ _ _ _ _ _ _ _ _ _ _ _ _ _ _ _ _ _ _ _ (by omega) (by omega) (by rw [Nat.sub_zero]; exact hsz) (Nat.le_refl _) (by k_asm) (by k_asm) (by k_asm) Nr (by k_asm) rfl (by ktr_room) (by ktr_units) (r0 _ hax) r2 r3 (by assumption) (by assumption) r5 (by assumption) r4 (by assumption) r6 (by assumption) ?_
    intro t1 h1 tk1 F1 N1
    k_steps
    exact out7_end hret (by assumption) (by assumption) r7 (by rw [cut_all])
  · obtain ⟨rest, Nr, r0, r2, r3, r4, r5, r6, r7⟩ := st7_hit (by assumption) hc9 hd9 hv9 hne
    have hnil : ns = [] := List.eq_nil_of_length_eq_zero (by omega)
    exact out7_end hret (by assumption) Nr r7 (by rw [hnil]; rfl)
theorem c7 {n : Nat} {tn : Tok} {ax : Nat} {vs : List Value} {ns : List Int} {k : Nat} {dp un : Nat} {gd : Option (List Code)} {cn : Str} {cs : Scope} {ad : Addr} {ccd : Value} {cl : List (Str × Addr)} {outer : List Env} {A₀ : Around} {base h₀ : Heap} {L : Addr} {m : Str → Option Value} {news : List (Addr × Obj)} {s : Shared} {ps : Array Value}
    {Q E : Value → Shared → Prop} (hn : 1 ≤ n) (hlen : ns.length ≤ 30000) (hsz : ns.length * n ≤ 100000) (hvs : IntsAre vs ns) (hbd : ∀ d ∈ ns, 0 ≤ d ∧ d < 2 ^ n)
    (B : Below A₀ base outer h₀) (F : Fr h₀ L s.heap m) (X : (Mine.hd.heap_39 w.params).In h₀) (N : News h₀ L s.heap ((37, tabObj ps) :: news)) (T : Top p loose mean mg mb h₀) (hks : cs.kind = .function) (hd : dp + 60 < recursionLimit) (hu : un + 400 < cLine)
    (hne : ∀ p ∈ news, p.1 ≠ 37) (hT : TabOk 47 4 q37 ps news) (hax : (ax, listOf vs.toArray k) ∈ news)
    (hret : ∀ r news' h' tk', Fr h₀ L h' m → News h₀ L h' news' → Out7 n ns news r news' → Q r { s with heap := h', toks := tk' }) :
    wpAny (model prog w) (ktrTop dp un gd cn cs L ad ccd cl outer) (call (.ref 42) [.ref ax, .int (n : Int) tn]) Q E s := by
  rcases hT.ok with rfl | ⟨c, oc, vs', t, rfl, hc, hd1, hv⟩
  · exact c7a n tn ax vs ns k hn hlen hsz hvs hbd _ _ _ _ _ _ _ _ _ _ _ _ _ _ _ _ _ _ B F X N T hks hd hu hne hax hret
  · exact c7b c oc vs' t n tn ax vs ns k hn hlen hsz hvs hbd _ _ _ _ _ _ _ _ _ _ _ _ _ _ _ _ _ _ B F X N T hks hd hu hne hc hd1 hv hax hret
end
end Mine

namespace Mine
open Builtin.Int (intBits)
section
variable {prog : Program} {w : World} {A : Around} {E : Value → Shared → Prop} {s : Shared} {env : Env} {h₀ : Heap} {x : Str} {body : List Stmt} {Q : Flow → Shared → Prop}
theorem unrPost_mono {L : Addr} {s₁ s₂ : Shared} {I : Addr} {it : Obj} {R R' : (Str → Option Value) → List (Addr × Obj) → Prop} {f : Flow} (h : UnrPost h₀ L s₁ I it R Q f s₂) (hr : ∀ m n, R m n → R' m n) : UnrPost h₀ L s₁ I it R' Q f s₂ := by
  cases f with
  | ret v => exact h
  | brk => exact h
  | next => obtain ⟨h', tk, m', n', a, b, c, d, e⟩ := h; exact ⟨h', tk, m', n', a, b, c, d, hr _ _ e⟩
  | cont => obtain ⟨h', tk, m', n', a, b, c, d, e⟩ := h; exact ⟨h', tk, m', n', a, b, c, d, hr _ _ e⟩
theorem rev_inv {I : Addr} {lp : Addr × Obj} (Inv : List Value → (Str → Option Value) → List (Addr × Obj) → Prop)
    (turn : ∀ v r m news, Inv (v :: r) m news → ∀ (it : Obj) h tk, it.cls = .type "list_reverseiterator" → Fr h₀ env.locals h (fun y => if y = x then some v else m y) → News h₀ env.locals h ((I, it) :: news) →
      wpAny (model prog w) A (execs body env) (UnrPost h₀ env.locals { s with heap := h, toks := tk } I it (fun m' n' => lp ∈ n' ∧ Inv r m' n') Q) E { s with heap := h, toks := tk })
    (done : ∀ m news, Inv [] m news → ∀ h tk, Fr h₀ env.locals h m → News h₀ env.locals h news → Q .next { s with heap := h, toks := tk }) :
    ∀ (l : List Value) (m : Str → Option Value) (news : List (Addr × Obj)), Inv l m news → RevRest prog w A E h₀ env x body Q s I lp l m news
  | [], m, news, hi => done m news hi
  | v :: r, m, news, hi => fun it h tk hc F N => wpAny_mono (turn v r m news hi it h tk hc F N) (fun f s₂ hp => unrPost_mono hp fun m' n' hr => ⟨hr.1, rev_inv Inv turn done r m' n' hr.2⟩) fun _ _ e => e
theorem rev_use {I : Addr} {lp : Addr × Obj} {l : List Value} {m₀ : Str → Option Value} {news₀ : List (Addr × Obj)} (Inv : (Str → Option Value) → List Value → (Str → Option Value) → List (Addr × Obj) → Prop) (start : Inv m₀ l m₀ news₀)
    (done : ∀ m news, Inv m₀ [] m news → ∀ h tk, Fr h₀ env.locals h m → News h₀ env.locals h news → Q .next { s with heap := h, toks := tk })
    (turn : ∀ v r m news, Inv m₀ (v :: r) m news → ∀ (it : Obj) h tk, it.cls = .type "list_reverseiterator" → Fr h₀ env.locals h (fun y => if y = x then some v else m y) → News h₀ env.locals h ((I, it) :: news) →
      wpAny (model prog w) A (execs body env) (UnrPost h₀ env.locals { s with heap := h, toks := tk } I it (fun m' n' => lp ∈ n' ∧ Inv m₀ r m' n') Q) E { s with heap := h, toks := tk }) :
    RevRest prog w A E h₀ env x body Q s I lp l m₀ news₀ := rev_inv (Inv m₀) turn done l m₀ news₀ start
theorem offI_of {I : Addr} {it : Obj} : ∀ {l : List (Addr × Obj)}, (∀ p ∈ l, p.1 ≠ I) → OffI I it l
  | [], _ => trivial
  | _ :: _, h => ⟨.inl (h _ (.head _)), offI_of fun p hp => h p (.tail _ hp)⟩
theorem ints_reverse {vs : List Value} {ns : List Int} (h : IntsAre vs ns) : IntsAre vs.reverse ns.reverse := by
  have app : ∀ {vs vs' : List Value} {ns ns' : List Int}, IntsAre vs ns → IntsAre vs' ns' → IntsAre (vs ++ vs') (ns ++ ns') := by
    intro vs vs' ns ns' h h'
    induction h with
    | nil => exact h'
    | cons i t _ ih => exact .cons i t ih
  induction h with
  | nil => exact .nil
  | cons i t _ ih => rw [List.reverse_cons, List.reverse_cons]; exact app ih (.cons i t .nil)
theorem ints_snoc {vs : List Value} {ns : List Int} {x : Int} {t : Tok} (h : IntsAre vs ns) : IntsAre (vs ++ [.int x t]) (ns ++ [x]) := by
  induction h with
  | nil => exact .cons x t .nil
  | cons i t _ ih => exact .cons i t ih
end
section
variable {prog : Program} {w : World} {A : Around} {E : Value → Shared → Prop} {s : Shared} {h₀ : Heap} {L D : Addr} {m : Str → Option Value} {news news' : List (Addr × Obj)} {Q : Value → Shared → Prop}
theorem append_lst {qs : List Value} {n : Nat} {v : Value} (F : Fr h₀ L s.heap m) (N : News h₀ L s.heap news) (U : Upd D (listOf qs.toArray n) (listOf (qs ++ [v]).toArray (n + 1)) news news') (hsz : qs.length ≤ 1000000)
    (h : ∀ h', Fr h₀ L h' m → News h₀ L h' news' → Q .none { s with heap := h' }) : wpAny (model prog w) A (call (.builtin "list.append") [.ref D, v]) Q E s := by
  have e : qs.toArray.push v = (qs ++ [v]).toArray := by simp
  refine append_K F N (e ▸ U) h ?_
  rw [List.size_toArray, sizeLine_eq]; omega
theorem reverse_lst {qs : List Value} {n : Nat} (F : Fr h₀ L s.heap m) (N : News h₀ L s.heap news) (U : Upd D (listOf qs.toArray n) (listOf qs.reverse.toArray n) news news') (hsz : qs.length ≤ 1000000)
    (h : ∀ h', Fr h₀ L h' m → News h₀ L h' news' → Q .none { s with heap := h' }) : wpAny (model prog w) A (call (.builtin "list.reverse") [.ref D]) Q E s :=
  kl_reverse (its := qs.toArray) (l := qs.reverse) F N (by simp) U (by show qs.length ≤ _; rw [sizeLine_eq]; omega) h
end
theorem tab_nostr {ln col : Int} {q : Str} {ps : Array Value} {l : List (Addr × Obj)} (T : TabOk ln col q ps l) (q' : Str) (t : Tok) : ps[1]? ≠ some (.str q' t) := by
  rcases T.ok with rfl | ⟨c, oc, vs, t', rfl, _⟩
  · simp
  · intro h; cases h
theorem TabOk.drop {ln col : Int} {q : Str} {ps psP : Array Value} {rest l : List (Addr × Obj)} {h₀ h : Heap} {L P : Addr} (T : TabOk ln col q ps rest) (N : News h₀ L h l) (hl : ∀ p ∈ rest, p ∈ l) (hP : (P, tabObj psP) ∈ l) (hs : ∀ q t, psP[1]? ≠ some (.str q t)) :
    TabOk ln col q ps (rest.filter fun p => p.1 != P) :=
  ⟨T.ok.imp id fun ⟨c, oc, vs, t, a, b, d, e⟩ => ⟨c, oc, vs, t, a, List.mem_filter.mpr ⟨b, by
    show (c != P) = true
    rw [bne_iff_ne]
    intro hc
    have h1 := (N _ (hl _ b)).1
    have h2 := (N _ hP).1
    rw [show ((c, oc) : Addr × Obj).1 = P from hc] at h1
    rw [h1] at h2
    have h3 : oc = tabObj psP := Option.some.inj h2
    rw [h3] at d
    have h4 : psP = vs := Data.fields.inj d
    exact hs _ _ (h4 ▸ e)⟩, d, e⟩⟩

def Out8 (x y : Int) (news : List (Addr × Obj)) (r : Value) (news' : List (Addr × Obj)) : Prop :=
  ∃ q t u ps37 ps30 rest, r = .ref q ∧ news' = (q, tup2 x y t u) :: (37, tabObj ps37) :: (30, tabObj ps30) :: rest ∧ (∀ p ∈ news, p ∈ rest) ∧ (∀ p ∈ rest, p.1 ≠ 37 ∧ p.1 ≠ 30) ∧ TabOk 47 4 q37 ps37 rest ∧ TabOk 32 4 q30 ps30 rest

theorem out8_end {x y : Int} {h₀ h' : Heap} {L : Addr} {m : Str → Option Value} {news all rest : List (Addr × Obj)} {q : Addr} {t u : Tok} {tk' : Nat} {ps37 ps30 : Array Value} {Q : Value → Shared → Prop} {s : Shared}
    (hret : ∀ r news' h' tk', Fr h₀ L h' m → News h₀ L h' news' → Out8 x y news r news' → Q r { s with heap := h', toks := tk' }) (F : Fr h₀ L h' m) (N : News h₀ L h' all) (hm : (q, tup2 x y t u) ∈ all)
    (h37 : (37, tabObj ps37) ∈ all) (h30 : (30, tabObj ps30) ∈ all) (hr : ∀ p ∈ rest, p ∈ all) (hs : ∀ p ∈ news, p ∈ rest) (hn : ∀ p ∈ rest, p.1 ≠ 37 ∧ p.1 ≠ 30) (T37 : TabOk 47 4 q37 ps37 rest) (T30 : TabOk 32 4 q30 ps30 rest) :
    Q (.ref q) { s with heap := h', toks := tk' } := by
  refine hret _ _ _ _ F (news_sub N fun p hp => ?_) ⟨q, t, u, ps37, ps30, rest, rfl, rfl, hs, hn, T37, T30⟩
  rcases List.mem_cons.mp hp with rfl | hp
  · exact hm
  · rcases List.mem_cons.mp hp with rfl | hp
    · exact h37
    · rcases List.mem_cons.mp hp with rfl | hp
      · exact h30
      · exact hr p hp
def Inv8 (a b : Int) (n cnt : Nat) (D : Nat) (base : List (Addr × Obj)) (m0 : Str → Option Value) (es : List Value) (m : Str → Option Value) (news : List (Addr × Obj)) : Prop :=
  ∃ (ns : List Int) (qs : List Value) (zs : List Int) (r : Int) (tr : Tok) (kq : Nat) (u1 u2 : Option Value),
    IntsAre es ns ∧ (∀ d ∈ ns, 0 ≤ d ∧ d < 2 ^ n) ∧ news = (D, listOf qs.toArray kq) :: base ∧ IntsAre qs zs ∧ (∀ z ∈ zs, 0 ≤ z ∧ z < 2 ^ n) ∧ zs.length + ns.length = cnt ∧ 0 ≤ r ∧ r < b ∧
      und n ns.reverse + 2 ^ (ns.length * n) * (und n zs.reverse * b + r) = a ∧
      m = fun y => if y = Str.ofString "r" then some (.int r tr) else if y = Str.ofString "q_digit" then u1 else if y = Str.ofString "a_digit" then u2 else m0 y
theorem inv8_step {b d r T Q : Int} {n : Nat} {ns : List Int} {zs : List Int} (hb : 0 < b) (_hd : 0 ≤ d) (h : und n (d :: ns).reverse + 2 ^ ((d :: ns).length * n) * (und n zs.reverse * b + r) = T) (hQ : Q = (r * 2 ^ n + d).fdiv b) :
    und n ns.reverse + 2 ^ (ns.length * n) * (und n (zs ++ [Q]).reverse * b + (r * 2 ^ n + d).fmod b) = T := by
  have w := fwhole (r * 2 ^ n + d) b
  subst hQ
  rw [List.reverse_cons, und_append, List.length_reverse, List.length_cons, Nat.add_mul, Nat.one_mul, Int.pow_add] at h
  rw [List.reverse_append, List.reverse_singleton, List.singleton_append]
  show und n ns.reverse + 2 ^ (ns.length * n) * (((r * 2 ^ n + d).fdiv b + 2 ^ n * und n zs.reverse) * b + (r * 2 ^ n + d).fmod b) = T
  have e1 : und n [d] = d := by show d + 2 ^ n * 0 = d; rw [Int.mul_zero, Int.add_zero]
  rw [e1] at h
  have e2 : ((r * 2 ^ n + d).fdiv b + 2 ^ n * und n zs.reverse) * b + (r * 2 ^ n + d).fmod b = d + 2 ^ n * (und n zs.reverse * b + r) := by
    rw [Int.add_mul, Int.mul_add, Int.mul_comm r (2 ^ n)] at *
    rw [Int.mul_assoc]
    omega
  rw [e2, Int.mul_add, ← h, Int.mul_assoc]
  omega
theorem inv8_lt {b d r : Int} {n : Nat} (hr : 0 ≤ r) (hr' : r < b) (hd : 0 ≤ d) (hd' : d < 2 ^ n) : 0 ≤ r * 2 ^ n + d ∧ r * 2 ^ n + d < 2 ^ n * b := by
  have hp := kbt_pos n
  have h1 := Int.mul_nonneg hr (Int.le_of_lt hp)
  have h2 : r * 2 ^ n ≤ (b - 1) * 2 ^ n := Int.mul_le_mul_of_nonneg_right (by omega) (Int.le_of_lt hp)
  rw [Int.sub_mul, Int.one_mul, Int.mul_comm b] at h2
  omega

section
local macro_rules | `(tactic| walk_at "UnrEnd") => `(tactic| (k_here; (refine Mine.Stop.out ?_)))
local macro_rules | `(tactic| walk_at "pyIter ref") => `(tactic| (k_here; (refine Mine.Stop.out ?_)))
local macro_rules | `(tactic| k_mem) => `(tactic| first | assumption | exact List.Mem.head _ | (refine List.mem_cons_of_mem _ ?_; k_mem))
local macro_rules | `(tactic| k_all) => `(tactic| assumption)
local macro_rules | `(tactic| walk_at "call builtin:list.append") => `(tactic| (k_here; (k_dflt (refine Mine.append_lst (by k_asm) (by k_asm) (by k_upd) (by omega) ?_)); intro h' F' N'))
local macro_rules | `(tactic| walk_at "call builtin:list.reverse") => `(tactic| (k_here; (k_dflt (refine Mine.reverse_lst (by k_asm) (by k_asm) (by k_upd) (by omega) ?_)); intro h' F' N'))
local macro_rules | `(tactic| walk_at "getMethod int") => `(tactic| (k_here; refine getMethod_int_bit_length ?_))
variable {prog : Program} {w : World} {p : Program} {loose : List Str} {mean : ExcName → Option Value} {mg mb : Str → Option Value}

theorem c8 {a b : Int} {ta tb : Tok} {dp un : Nat} {gd : Option (List Code)} {cn : Str} {cs : Scope} {ad : Addr} {ccd : Value} {cl : List (Str × Addr)} {outer : List Env} {A₀ : Around} {base h₀ : Heap} {L : Addr} {m : Str → Option Value} {news : List (Addr × Obj)} {s : Shared} {ps37 ps30 : Array Value}
    {Q E : Value → Shared → Prop} (ha : 0 ≤ a) (hab : intBits a ≤ 20000) (hb : 0 < b) (hbb : intBits b ≤ 7000)
    (B : Below A₀ base outer h₀) (F : Fr h₀ L s.heap m) (X : (Mine.hd.heap_39 w.params).In h₀) (N : News h₀ L s.heap ((37, tabObj ps37) :: (30, tabObj ps30) :: news)) (T : Top p loose mean mg mb h₀) (hks : cs.kind = .function) (hd : dp + 70 < recursionLimit) (hu : un + 500 < cLine)
    (hne : ∀ p ∈ news, p.1 ≠ 37 ∧ p.1 ≠ 30) (hT37 : TabOk 47 4 q37 ps37 news) (hT30 : TabOk 32 4 q30 ps30 news)
    (hret : ∀ r news' h' tk', Fr h₀ L h' m → News h₀ L h' news' → Out8 (a.fdiv b) (a.fmod b) news r news' → Q r { s with heap := h', toks := tk' }) :
    wpAny (model prog w) (ktrTop dp un gd cn cs L ad ccd cl outer) (call (.ref 49) [.int a ta, .int b tb]) Q E s := by
  have hbn := bits_ge hb
  have hcn := cnt_le (intBits a) (intBits b) hbn.1
  refine wpAny_call ?_
  refine' code_def (binds := [(Str.ofString "a", .int a ta), (Str.ofString "b", .int b tb)]) ?k1 ?k2 ?k3 ?k4 ?k5 ?kA ?kF ?kK ?k6 ?k7 ?k8 ?k9 ?kB ?_ ?c2 ?c3 ?c4 ?c5
  case kA => exact rfl
  case kF => exact rfl
  case kK => assumption
  case k1 => k_asm
  case k2 => k_asm
  case k3 => k_asm
  case k4 => k_asm
  case k5 => k_asm
  case k6 => k_is
  case k7 => k_is
  case k8 => ktr_room
  case k9 => exact BindsTo.of_eq rfl
  case c5 => decide
  case kB => exact locs rfl
  case c2 => exact rfl
  case c3 => exact rfl
  case c4 => exact rfl
  intro g' L' h' FG' F' N' B' X' T'
  (try dsimp only)
  (try k_fold)
  k_steps
  refine Stop.go ?_
  refine c5 (n := intBits b) (news := (37, tabObj ps37) :: news) hbn.1 hbb ha hab (by k_asm) (by k_asm) (by k_asm) (news_sub (l := (37, tabObj ps37) :: (30, tabObj ps30) :: news) (by k_asm) (by intro p hp; simp only [List.mem_cons] at hp ⊢; rcases hp with h | h | h <;> simp [h])) (by k_asm) rfl (by ktr_room) (by ktr_units) (List.forall_mem_cons.mpr ⟨show (37 : Nat) ≠ 30 by decide, fun p hp => (hne p hp).2⟩) (hT30.mono fun p hp => .tail _ hp) ?_
  rintro r news' h1 tk1 F1 N1 ⟨ax, vs1, k1, ps1, rest1, rfl, rfl, hsub1, hT1, hne1, hneax, hvs1⟩
  have h37 : (37, tabObj ps37) ∈ rest1 := hsub1 _ (.head _)
  have hT30' := hT1.drop (P := 37) N1 (fun p hp => .tail _ (.tail _ hp)) (.tail _ (.tail _ h37)) (tab_nostr hT37)
  have hlen1 := hvs1.length
  rw [digs_length] at hlen1
  k_steps
  rename_i l9 h91 l1a h92 I9 h93 F9 N9 l1b
  have hbD : ∀ p ∈ (ax, listOf vs1.toArray k1) :: (30, tabObj ps1) :: rest1, p.1 ≠ l9 := List.forall_mem_cons.mpr ⟨by k_ne, List.forall_mem_cons.mpr ⟨by k_ne, fun p hp => Nat.ne_of_lt (allLt_mem l1a.2.2 p hp)⟩⟩
  have hbI : ∀ p ∈ (l9, listOf #[] 0) :: (ax, listOf vs1.toArray k1) :: (30, tabObj ps1) :: rest1, p.1 ≠ I9 := List.forall_mem_cons.mpr ⟨by k_ne, List.forall_mem_cons.mpr ⟨by k_ne, List.forall_mem_cons.mpr ⟨by k_ne, fun p hp => Nat.ne_of_lt (allLt_mem l1b.2.2.2 p hp)⟩⟩⟩
  have hID : @LT.lt Nat _ l9 I9 := l1b.1
  have hlp : (ax, listOf vs1.toArray k1) ∈ (ax, listOf vs1.toArray k1) :: (30, tabObj ps1) :: rest1 := .head _
  have h30 : (30, tabObj ps1) ∈ (ax, listOf vs1.toArray k1) :: (30, tabObj ps1) :: rest1 := .tail _ (.head _)
  have hr1 : ∀ p ∈ rest1, p ∈ (ax, listOf vs1.toArray k1) :: (30, tabObj ps1) :: rest1 := fun p hp => .tail _ (.tail _ hp)
  generalize ((ax, listOf vs1.toArray k1) :: (30, tabObj ps1) :: rest1 : List (Addr × Obj)) = base9 at *
  have hall : intBits a ≤ (intBits a + intBits b - 1) / intBits b * intBits b := hcn.1
  have hund := und_digs (intBits b) ((intBits a + intBits b - 1) / intBits b) a ha (Int.lt_of_lt_of_le (lt_bits (Nat.le_refl _)).1 (pow_le hall))
  refine Stop.go ?_
  refine iter_revUnr (lo := listOf vs1.toArray k1) (vs := vs1) rfl F9 N9 (offI_of hbI) (.tail _ hlp) rfl rfl (rev_use (Inv8 a b (intBits b) ((intBits a + intBits b - 1) / intBits b) l9 base9) ?start ?done ?turn)
  case start =>
    refine' ⟨_, [], [], 0, _, 0, none, none, ints_reverse hvs1, fun d hd => digs_bounds _ _ _ d (List.mem_reverse.mp hd), rfl, .nil, fun _ h => (nomatch h), ?_, Int.le_refl _, hb, ?_, funext fun y => ?_⟩
    rotate_left
    · rw [List.length_reverse, digs_length]; simp
    · rw [List.reverse_reverse, hund]
      show a + 2 ^ _ * (0 * b + 0) = a
      rw [Int.zero_mul, Int.add_zero, Int.mul_zero, Int.add_zero]
    · by_cases h1 : y = Str.ofString "r"
      · subst h1; rfl
      · by_cases h2 : y = Str.ofString "q_digit"
        · subst h2; rfl
        · by_cases h3 : y = Str.ofString "a_digit"
          · subst h3; rfl
          · simp only [if_neg h1, if_neg h2, if_neg h3]
  case done =>
    rintro m9 news9 ⟨ns, qs, zs, r, tr, kq, u1, u2, hes, _, rfl, hqs, hz, hlz, hr0, hr1', hA, rfl⟩ h9 tk9 F9 N9
    have hql := hqs.length
    have ens : ns = [] := by cases hes with | nil => rfl
    subst ens
    have hA2 : und (intBits b) zs.reverse * b + r = a := by
      have h9 : (0 : Int) + 2 ^ (0 * intBits b) * (und (intBits b) zs.reverse * b + r) = a := hA
      rw [Nat.zero_mul, Int.pow_zero, Int.one_mul, Int.zero_add] at h9
      exact h9
    obtain ⟨eq1, eq2⟩ := fdm (x := a) (q := und (intBits b) zs.reverse) (r := r) hb (by omega) hr0 hr1'
    have hzl : zs.length = (intBits a + intBits b - 1) / intBits b := hlz
    rw [eq1, eq2] at hret
    have hb37 : (37, tabObj ps37) ∈ base9 := hr1 _ h37
    have h379 : (37 : Nat) ≠ l9 := hbD _ hb37
    k_steps
    refine Stop.go ?_
    refine c7 (n := intBits b) (vs := qs.reverse) (ns := zs.reverse) (k := kq) (ps := ps37) (news := ((l9, listOf qs.reverse.toArray kq) :: base9).filter fun p => p.1 != 37) hbn.1 (by rw [List.length_reverse]; omega) (by rw [List.length_reverse, hzl]; omega) (ints_reverse hqs) (fun d hd => hz d (List.mem_reverse.mp hd)) (by k_asm) (by k_asm) (by k_asm) (news_sub (l := (l9, listOf qs.reverse.toArray kq) :: base9) (by k_asm) ?n1) (by k_asm) rfl (by ktr_room) (by ktr_units) ?n2 ?n3 ?n4 ?n5
    case n1 =>
      intro p hp
      rcases List.mem_cons.mp hp with rfl | hp
      · exact .tail _ hb37
      · exact (List.mem_filter.mp hp).1
    case n2 => exact fun p hp => bne_iff_ne.mp (List.mem_filter.mp hp).2
    case n3 => exact hT37.mono fun p hp => List.mem_filter.mpr ⟨.tail _ (hr1 _ (hsub1 _ (.tail _ hp))), bne_iff_ne.mpr (hne p hp).1⟩
    case n4 => exact List.mem_filter.mpr ⟨.head _, bne_iff_ne.mpr (Ne.symm h379)⟩
    case n5 =>
      rintro r7 news7 h7 tk7 F7 N7 ⟨t7, ps7, rest7, rfl, rfl, hsub7, hT7, hne7, _⟩
      have hin7 : ∀ p ∈ base9, p.1 ≠ 37 → p ∈ rest7 := fun p hp hn => hsub7 _ (List.mem_filter.mpr ⟨.tail _ hp, bne_iff_ne.mpr hn⟩)
      have h307 : (30, tabObj ps1) ∈ rest7 := hin7 _ h30 (show (30 : Nat) ≠ 37 by decide)
      have hT37' := hT7.drop (P := 30) N7 (fun p hp => .tail _ hp) (.tail _ h307) (tab_nostr hT1)
      have hT30'' : TabOk 32 4 q30 ps1 (rest7.filter fun p => p.1 != 30) := hT30'.mono fun p hp => by
        have h := List.mem_filter.mp hp
        exact List.mem_filter.mpr ⟨hin7 p (hr1 p h.1) (bne_iff_ne.mp h.2), bne_iff_ne.mpr (hne1 p h.1)⟩
      k_steps
      exact out8_end hret (by assumption) (by assumption) (.head _) (.tail _ (.head _)) (.tail _ (.tail _ h307)) (fun p hp => .tail _ (.tail _ (List.mem_filter.mp hp).1)) (fun p hp => List.mem_filter.mpr ⟨hin7 p (hr1 _ (hsub1 _ (.tail _ hp))) (hne p hp).1, bne_iff_ne.mpr (hne p hp).2⟩) (fun p hp => ⟨hne7 p (List.mem_filter.mp hp).1, bne_iff_ne.mp (List.mem_filter.mp hp).2⟩) hT37' hT30''
  case turn =>
    rintro v es m9 news9 ⟨ns, qs, zs, r, tr, kq, u1, u2, hes, hds, rfl, hqs, hz, hlz, hr0, hr1', hA, rfl⟩ it h9 tk9 hit F9 N9
    cases hes with
    | cons d td hes' =>
      have hd := hds d (.head _)
      have hx := inv8_lt hr0 hr1' hd.1 hd.2
      have hbr : intBits r ≤ 7000 := Nat.le_trans (bits_lt hr0 (Int.lt_trans hr1' (lt_bits (Nat.le_refl (intBits b))).1)) hbb
      have hq0 : 0 ≤ (r * 2 ^ intBits b + d).fdiv b := fquot hb hx.1
      have hq1 : (r * 2 ^ intBits b + d).fdiv b < 2 ^ intBits b := fquot_lt hb hx.2
      have hrr := frest (x := r * 2 ^ intBits b + d) hb
      have hql := hqs.length
      k_steps
      refine Stop.go ?_
      refine pair_use (c3 _ b (intBits b) _ _ _ hbn.1 hbb hbn.2 (lt_bits (Nat.le_refl _)).1 hx.1 hx.2) (by k_asm) (by k_asm) (by k_asm) (by k_asm) (by k_asm) rfl (by ktr_room) (by ktr_units) ?_
      intro q8 t8 u8 h8 tk8 F8 N8 l8
      have hq8 : @LT.lt Nat _ l9 q8 := l8 (l9, listOf qs.toArray kq) (.tail _ (.head _))
      k_steps
      have hz9 : ∀ z ∈ zs ++ [(r * 2 ^ intBits b + d).fdiv b], 0 ≤ z ∧ z < 2 ^ intBits b := by
        intro z hz'
        rcases List.mem_append.mp hz' with h | h
        · exact hz z h
        · rw [List.mem_singleton.mp h]; exact ⟨hq0, hq1⟩
      refine Stop.go ?_
      refine UnrEnd.intro (by assumption) (by assumption) ((l9, listOf (qs ++ [Value.int ((r * 2 ^ intBits b + d).fdiv b) t8]).toArray (kq + 1)) :: base9) ?sub ?off ?rest
      case sub =>
        intro p hp
        rcases List.mem_cons.mp hp with rfl | hp
        · exact .tail _ (.head _)
        · exact .tail _ (.tail _ hp)
      case off => exact List.forall_mem_cons.mpr ⟨Nat.ne_of_lt hID, fun p hp => hbI p (.tail _ hp)⟩
      case rest =>
        refine ⟨.tail _ hlp, _, _, zs ++ [(r * 2 ^ intBits b + d).fdiv b], (r * 2 ^ intBits b + d).fmod b, u8, kq + 1, some (.int ((r * 2 ^ intBits b + d).fdiv b) t8), some (.int d td), hes', fun d hd => hds d (.tail _ hd), rfl, ints_snoc hqs, hz9, ?_, hrr.1, hrr.2, inv8_step hb hd.1 hA rfl, funext fun y => ?_⟩
        · rw [List.length_append]; simp only [List.length_cons, List.length_nil] at hlz ⊢; omega
        · by_cases h1 : y = Str.ofString "r"
          · subst h1; rfl
          · by_cases h2 : y = Str.ofString "q_digit"
            · subst h2; rfl
            · by_cases h3 : y = Str.ofString "a_digit"
              · subst h3; rfl
              · simp only [if_neg h1, if_neg h2, if_neg h3]
end
end Mine

namespace Mine
open Builtin.Int (intBits)
def Told9 (prog : Program) (w : World) (p : Program) (loose : List Str) (mean : ExcName → Option Value) (mg mb : Str → Option Value) (f : Addr) (vs : List Value) (d u : Nat) (x y : Int) : Prop :=
  ∀ (dp un : Nat) (gd : Option (List Code)) (cn : Str) (cs : Scope) (ad : Addr) (ccd : Value) (cl : List (Str × Addr)) (outer : List Env) (A₀ : Around) (base h₀ : Heap) (L : Addr) (m : Str → Option Value) (news : List (Addr × Obj)) (s : Shared) (ps37 ps30 : Array Value)
    (Q E : Value → Shared → Prop), Below A₀ base outer h₀ → Fr h₀ L s.heap m → (Mine.hd.heap_39 w.params).In h₀ → News h₀ L s.heap ((37, tabObj ps37) :: (30, tabObj ps30) :: news) → Top p loose mean mg mb h₀ → cs.kind = .function → dp + d < recursionLimit → un + u < cLine →
    (∀ p ∈ news, p.1 ≠ 37 ∧ p.1 ≠ 30) → TabOk 47 4 q37 ps37 news → TabOk 32 4 q30 ps30 news →
    (∀ q t u ps37' ps30' rest h' tk', Fr h₀ L h' m → News h₀ L h' ((q, tup2 x y t u) :: (37, tabObj ps37') :: (30, tabObj ps30') :: rest) → (∀ p ∈ news, p ∈ rest) → (∀ p ∈ rest, p.1 ≠ 37 ∧ p.1 ≠ 30) → TabOk 47 4 q37 ps37' rest → TabOk 32 4 q30 ps30' rest → Q (.ref q) { s with heap := h', toks := tk' }) →
    wpAny (model prog w) (ktrTop dp un gd cn cs L ad ccd cl outer) (call (.ref f) vs) Q E s
def dq (a b : Int) : Int := if b < 0 then (-a).fdiv (-b) else a.fdiv b
def dr (a b : Int) : Int := if b < 0 then -((-a).fmod (-b)) else a.fmod b
theorem dqr {a b : Int} (hb : b ≠ 0) : dq a b * b + dr a b = a ∧ (0 < b → 0 ≤ dr a b ∧ dr a b < b) ∧ (b < 0 → b < dr a b ∧ dr a b ≤ 0) := by
  unfold dq dr
  by_cases h : b < 0
  · rw [if_pos h, if_pos h]
    have w := fwhole (-a) (-b)
    have r := frest (x := -a) (b := -b) (by omega)
    rw [Int.mul_neg] at w
    exact ⟨by omega, fun h' => by omega, fun _ => by omega⟩
  · rw [if_neg h, if_neg h]
    have w := fwhole a b
    have r := frest (x := a) (b := b) (by omega)
    exact ⟨by omega, fun _ => r, fun h' => by omega⟩
theorem not_out {a b : Int} (hb : 0 < b) : Builtin.bitNot ((Builtin.bitNot a).fdiv b) = a.fdiv b ∧ b + Builtin.bitNot ((Builtin.bitNot a).fmod b) = a.fmod b := by
  rw [kbt_not, kbt_not, kbt_not]
  have w := fwhole (-a - 1) b
  have r := frest (x := -a - 1) hb
  obtain ⟨e1, e2⟩ := fdm (x := a) (b := b) (q := -((-a - 1).fdiv b) - 1) (r := b - 1 - (-a - 1).fmod b) hb (by rw [Int.sub_mul, Int.neg_mul]; omega) (by omega) (by omega)
  exact ⟨e1.symm, by omega⟩
section
variable {prog : Program} {w : World} {p : Program} {loose : List Str} {mean : ExcName → Option Value} {mg mb : Str → Option Value}
theorem out9_end {x y : Int} {h₀ h' : Heap} {L : Addr} {m : Str → Option Value} {news all rest : List (Addr × Obj)} {q : Addr} {t u : Tok} {tk' : Nat} {ps37 ps30 : Array Value} {Q : Value → Shared → Prop} {s : Shared}
    (hret : ∀ q t u ps37' ps30' rest h' tk', Fr h₀ L h' m → News h₀ L h' ((q, tup2 x y t u) :: (37, tabObj ps37') :: (30, tabObj ps30') :: rest) → (∀ p ∈ news, p ∈ rest) → (∀ p ∈ rest, p.1 ≠ 37 ∧ p.1 ≠ 30) → TabOk 47 4 q37 ps37' rest → TabOk 32 4 q30 ps30' rest → Q (.ref q) { s with heap := h', toks := tk' })
    (F : Fr h₀ L h' m) (N : News h₀ L h' all) (hm : (q, tup2 x y t u) ∈ all)
    (h37 : (37, tabObj ps37) ∈ all) (h30 : (30, tabObj ps30) ∈ all) (hr : ∀ p ∈ rest, p ∈ all) (hs : ∀ p ∈ news, p ∈ rest) (hn : ∀ p ∈ rest, p.1 ≠ 37 ∧ p.1 ≠ 30) (T37 : TabOk 47 4 q37 ps37 rest) (T30 : TabOk 32 4 q30 ps30 rest) :
    Q (.ref q) { s with heap := h', toks := tk' } := by
  refine hret q t u ps37 ps30 rest _ _ F (news_sub N fun p hp => ?_) hs hn T37 T30
  rcases List.mem_cons.mp hp with rfl | hp
  · exact hm
  · rcases List.mem_cons.mp hp with rfl | hp
    · exact h37
    · rcases List.mem_cons.mp hp with rfl | hp
      · exact h30
      · exact hr p hp

theorem c9p (a b : Int) (ta tb : Tok) (ha : 0 ≤ a) (hab : intBits a ≤ 20000) (hb : 0 < b) (hbb : intBits b ≤ 7000) : Told9 prog w p loose mean mg mb 56 [.int a ta, .int b tb] 75 520 (a.fdiv b) (a.fmod b) := by
  intro dp un gd cn cs ad ccd cl outer A₀ base h₀ L m news s ps37 ps30 Q E B F X N T hks hd hu hne hT37 hT30 hret
  refine wpAny_call ?_
  refine' code_def (binds := [(Str.ofString "a", .int a ta), (Str.ofString "b", .int b tb)]) ?k1 ?k2 ?k3 ?k4 ?k5 ?kA ?kF ?kK ?k6 ?k7 ?k8 ?k9 ?kB ?_ ?c2 ?c3 ?c4 ?c5
  case kA => exact rfl
  case kF => exact rfl
  case kK => assumption
  case k1 => k_asm
  case k2 => k_asm
  case k3 => k_asm
  case k4 => k_asm
  case k5 => k_asm
  case k6 => k_is
  case k7 => k_is
  case k8 => ktr_room
  case k9 => exact BindsTo.of_eq rfl
  case c5 => decide
  case kB => exact locs rfl
  case c2 => exact rfl
  case c3 => exact rfl
  case c4 => exact rfl
  intro g' L' h' FG' F' N' B' X' T'
  (try dsimp only)
  (try k_fold)
  k_steps
  all_goals try (exfalso; omega)
  refine Stop.go ?_
  refine c8 ha hab hb hbb (by k_asm) (by k_asm) (by k_asm) (by k_asm) (by k_asm) rfl (by ktr_room) (by ktr_units) hne hT37 hT30 ?_
  rintro r8 news8 h8 tk8 F8 N8 ⟨q8, t8, u8, ps378, ps308, rest8, rfl, rfl, hs8, hn8, hT8, hT8'⟩
  k_steps
  exact out9_end hret (by assumption) (by assumption) (.head _) (.tail _ (.head _)) (.tail _ (.tail _ (.head _))) (fun p hp => .tail _ (.tail _ (.tail _ hp))) hs8 hn8 hT8 hT8'

theorem c9n (a b : Int) (ta tb : Tok) (ha : a < 0) (hab : intBits (Builtin.bitNot a) ≤ 20000) (hb : 0 < b) (hbb : intBits b ≤ 7000) : Told9 prog w p loose mean mg mb 56 [.int a ta, .int b tb] 77 530 (a.fdiv b) (a.fmod b) := by
  intro dp un gd cn cs ad ccd cl outer A₀ base h₀ L m news s ps37 ps30 Q E B F X N T hks hd hu hne hT37 hT30 hret
  refine wpAny_call ?_
  refine' code_def (binds := [(Str.ofString "a", .int a ta), (Str.ofString "b", .int b tb)]) ?k1 ?k2 ?k3 ?k4 ?k5 ?kA ?kF ?kK ?k6 ?k7 ?k8 ?k9 ?kB ?_ ?c2 ?c3 ?c4 ?c5
  case kA => exact rfl
  case kF => exact rfl
  case kK => assumption
  case k1 => k_asm
  case k2 => k_asm
  case k3 => k_asm
  case k4 => k_asm
  case k5 => k_asm
  case k6 => k_is
  case k7 => k_is
  case k8 => ktr_room
  case k9 => exact BindsTo.of_eq rfl
  case c5 => decide
  case kB => exact locs rfl
  case c2 => exact rfl
  case c3 => exact rfl
  case c4 => exact rfl
  intro g' L' h' FG' F' N' B' X' T'
  (try dsimp only)
  (try k_fold)
  k_steps
  all_goals try (exfalso; omega)
  refine Stop.go ?_
  refine c9p (Builtin.bitNot a) b _ _ (by rw [kbt_not]; omega) hab hb hbb _ _ _ _ _ _ _ _ _ _ _ _ _ _ _ _ _ _ _ _ (by k_asm) (by k_asm) (by k_asm) (by k_asm) (by k_asm) rfl (by ktr_room) (by ktr_units) hne hT37 hT30 ?_
  intro q8 t8 u8 ps378 ps308 rest8 h8 tk8 F8 N8 hs8 hn8 hT8 hT8'
  obtain ⟨e1, e2⟩ := not_out (a := a) hb
  rw [← e1, ← e2] at hret
  k_steps
  exact out9_end hret (by assumption) (by assumption) (.head _) (.tail _ (.tail _ (.head _))) (.tail _ (.tail _ (.tail _ (.head _)))) (fun p hp => .tail _ (.tail _ (.tail _ (.tail _ hp)))) hs8 hn8 hT8 hT8'

theorem c9q (a b : Int) (ta tb : Tok) (hab : intBits a ≤ 19999) (hb : 0 < b) (hbb : intBits b ≤ 7000) : Told9 prog w p loose mean mg mb 56 [.int a ta, .int b tb] 77 530 (a.fdiv b) (a.fmod b) := by
  by_cases ha : a < 0
  · exact c9n a b ta tb ha (by rw [kbt_not]; exact Nat.le_trans (intBits_sub_le (intBits_neg_le hab) (show intBits 1 ≤ 1 by decide)) (by omega)) hb hbb
  · intro dp un gd cn cs ad ccd cl outer A₀ base h₀ L m news s ps37 ps30 Q E B F X N T hks hd hu hne hT37 hT30 hret
    exact c9p a b ta tb (by omega) (by omega) hb hbb _ _ _ _ _ _ _ _ _ _ _ _ _ _ _ _ _ _ _ _ B F X N T hks (by omega) (by omega) hne hT37 hT30 hret

theorem c9m (a b : Int) (ta tb : Tok) (hab : intBits a ≤ 19999) (hb : b < 0) (hbb : intBits b ≤ 7000) : Told9 prog w p loose mean mg mb 56 [.int a ta, .int b tb] 80 540 ((-a).fdiv (-b)) (-((-a).fmod (-b))) := by
  intro dp un gd cn cs ad ccd cl outer A₀ base h₀ L m news s ps37 ps30 Q E B F X N T hks hd hu hne hT37 hT30 hret
  refine wpAny_call ?_
  refine' code_def (binds := [(Str.ofString "a", .int a ta), (Str.ofString "b", .int b tb)]) ?k1 ?k2 ?k3 ?k4 ?k5 ?kA ?kF ?kK ?k6 ?k7 ?k8 ?k9 ?kB ?_ ?c2 ?c3 ?c4 ?c5
  case kA => exact rfl
  case kF => exact rfl
  case kK => assumption
  case k1 => k_asm
  case k2 => k_asm
  case k3 => k_asm
  case k4 => k_asm
  case k5 => k_asm
  case k6 => k_is
  case k7 => k_is
  case k8 => ktr_room
  case k9 => exact BindsTo.of_eq rfl
  case c5 => decide
  case kB => exact locs rfl
  case c2 => exact rfl
  case c3 => exact rfl
  case c4 => exact rfl
  intro g' L' h' FG' F' N' B' X' T'
  (try dsimp only)
  (try k_fold)
  k_steps
  all_goals try (exfalso; omega)
  refine Stop.go ?_
  refine c9q (-a) (-b) _ _ (intBits_neg_le hab) (by omega) (intBits_neg_le hbb) _ _ _ _ _ _ _ _ _ _ _ _ _ _ _ _ _ _ _ _ (by k_asm) (by k_asm) (by k_asm) (by k_asm) (by k_asm) rfl (by ktr_room) (by ktr_units) hne hT37 hT30 ?_
  intro q8 t8 u8 ps378 ps308 rest8 h8 tk8 F8 N8 hs8 hn8 hT8 hT8'
  k_steps
  exact out9_end hret (by assumption) (by assumption) (.head _) (.tail _ (.tail _ (.head _))) (.tail _ (.tail _ (.tail _ (.head _)))) (fun p hp => .tail _ (.tail _ (.tail _ (.tail _ hp)))) hs8 hn8 hT8 hT8'

theorem c9 (a b : Int) (ta tb : Tok) (hab : intBits a ≤ 19999) (hb : b ≠ 0) (hbb : intBits b ≤ 7000) : Told9 prog w p loose mean mg mb 56 [.int a ta, .int b tb] 80 540 (dq a b) (dr a b) := by
  unfold dq dr
  by_cases h : b < 0
  · rw [if_pos h, if_pos h]; exact c9m a b ta tb hab h hbb
  · rw [if_neg h, if_neg h]
    intro dp un gd cn cs ad ccd cl outer A₀ base h₀ L m news s ps37 ps30 Q E B F X N T hks hd hu hne hT37 hT30 hret
    exact c9q a b ta tb hab (by omega) hbb _ _ _ _ _ _ _ _ _ _ _ _ _ _ _ _ _ _ _ _ B F X N T hks (by omega) (by omega) hne hT37 hT30 hret
end
end Mine

namespace Mine
open Builtin.Int (intBits)
def mm (zs : List Int) (x y : Int) : Int × Int := zs.foldr (fun q p => (q * p.1 + p.2, p.1)) (x, y)
theorem mm_snoc (zs : List Int) (q x y : Int) : mm (zs ++ [q]) x y = mm zs (q * x + y) x := by
  unfold mm; rw [List.foldr_append]; rfl
theorem mm_mul (g : Int) : ∀ (zs : List Int) (x y : Int), mm zs (x * g) (y * g) = ((mm zs x y).1 * g, (mm zs x y).2 * g)
  | [], x, y => rfl
  | q :: zs, x, y => by
    show (q * (mm zs (x * g) (y * g)).1 + (mm zs (x * g) (y * g)).2, (mm zs (x * g) (y * g)).1) = ((q * (mm zs x y).1 + (mm zs x y).2) * g, (mm zs x y).1 * g)
    rw [mm_mul g zs x y, Int.add_mul, Int.mul_assoc]
structure Eu (a b : Int) (zs : List Int) (high low : Int) : Prop where
  rel : mm zs high low = (a, b)
  big : zs ≠ [] → (0 < high ∧ 0 ≤ low ∧ low < high) ∨ (high < 0 ∧ high < low ∧ low ≤ 0)
  tl : ∀ q ∈ zs.tail, 1 ≤ q
  last : low = 0 → 1 < zs.length → ∀ z, zs.getLast? = some z → 2 ≤ z
  pot : ∀ e, e = 14002 → zs ≠ [] → high.natAbs * low.natAbs * 2 ^ zs.length < 2 ^ e
  ln : zs.length ≤ 14002
  bh : intBits high ≤ 19999
  bl : intBits low ≤ 7000
  all : ∀ pre suf, zs = pre ++ suf → intBits (mm suf high low).1 ≤ 19999 ∧ intBits (mm suf high low).2 ≤ 19999
  qb : ∀ q ∈ zs, intBits q ≤ 19999
theorem Eu.start {a b : Int} (ha : intBits a ≤ 19999) (hb : intBits b ≤ 7000) : Eu a b [] a b :=
  ⟨rfl, fun h => absurd rfl h, fun _ h => (nomatch h), fun _ h => by simp at h, fun _ _ h => absurd rfl h, by simp, ha, hb, fun pre suf e => by
    have e9 : suf = [] := (List.append_eq_nil_iff.mp e.symm).2
    subst e9; exact ⟨ha, Nat.le_trans hb (by omega)⟩, fun _ h => (nomatch h)⟩
theorem Eu.q1 {a b : Int} {zs : List Int} {high low q r : Int} (h : Eu a b zs high low) (h0 : low ≠ 0) (hz : zs ≠ []) (e : q * low + r = high) (hp : 0 < low → 0 ≤ r ∧ r < low) (hn : low < 0 → low < r ∧ r ≤ 0) :
    1 ≤ q ∧ 2 * r.natAbs ≤ high.natAbs ∧ (r = 0 → 2 ≤ q) := by
  have key : 1 ≤ q := by
    rcases Int.lt_or_le 0 q with h | hq
    · omega
    · exfalso
      rcases h.big hz with ⟨a1, a2, a3⟩ | ⟨a1, a2, a3⟩
      · have k : q * low ≤ 0 := Int.mul_nonpos_of_nonpos_of_nonneg hq (by omega)
        have := hp (by omega)
        omega
      · have k : 0 ≤ q * low := Int.mul_nonneg_of_nonpos_of_nonpos hq a3
        have := hn (by omega)
        omega
  have hm : low ≠ 0 → (0 < low → low ≤ q * low) ∧ (low < 0 → q * low ≤ low) := fun _ => by
    constructor
    · intro hl
      have := Int.mul_le_mul_of_nonneg_right key (show 0 ≤ low by omega)
      omega
    · intro hl
      have := Int.mul_le_mul_of_nonpos_right key (show low ≤ 0 by omega)
      omega
  refine ⟨key, ?_, ?_⟩
  · rcases h.big hz with ⟨a1, a2, a3⟩ | ⟨a1, a2, a3⟩
    · have := hp (by omega)
      have := (hm h0).1 (by omega)
      omega
    · have := hn (by omega)
      have := (hm h0).2 (by omega)
      omega
  · intro hr
    rcases Int.lt_or_le 1 q with h2 | h2
    · omega
    · have hq : q = 1 := by omega
      subst hq
      rcases h.big hz with ⟨a1, a2, a3⟩ | ⟨a1, a2, a3⟩ <;> omega
theorem Eu.step {a b : Int} {zs : List Int} {high low q r : Int} (h : Eu a b zs high low) (h0 : low ≠ 0) (e : q * low + r = high) (hp : 0 < low → 0 ≤ r ∧ r < low) (hn : low < 0 → low < r ∧ r ≤ 0) :
    Eu a b (zs ++ [q]) low r ∧ r.natAbs < low.natAbs ∧ zs.length < 14002 := by
  have hrl : r.natAbs < low.natAbs := by
    rcases Int.lt_or_le 0 low with hl | hl
    · have := hp hl; omega
    · have := hn (by omega); omega
  have hlen : zs.length < 14002 := by
    by_cases hz : zs = []
    · subst hz; simp
    · have hpt := h.pot 14002 rfl hz
      have hhi : 0 < high.natAbs := by rcases h.big hz with a1 | a1 <;> omega
      have h1 : 1 ≤ high.natAbs * low.natAbs := Nat.mul_pos hhi (by omega)
      have h2 : 2 ^ zs.length ≤ high.natAbs * low.natAbs * 2 ^ zs.length := Nat.le_mul_of_pos_left _ h1
      exact (Nat.pow_lt_pow_iff_right (by decide)).mp (Nat.lt_of_le_of_lt h2 hpt)
  refine ⟨⟨by rw [mm_snoc, e]; exact h.rel, fun _ => ?_, ?_, ?_, ?_, by rw [List.length_append]; simp only [List.length_cons, List.length_nil]; omega, Nat.le_trans h.bl (by omega), intBits_le_of_natAbs (Nat.le_of_lt hrl) h.bl, fun pre suf e9 => ?_, fun x hx => ?_⟩, hrl, hlen⟩
  rotate_right 2
  · rcases List.eq_nil_or_concat suf with rfl | ⟨suf', x, rfl⟩
    · exact ⟨Nat.le_trans h.bl (by omega), intBits_le_of_natAbs (Nat.le_of_lt hrl) (Nat.le_trans h.bl (by omega))⟩
    · rw [List.concat_eq_append] at e9 ⊢
      rw [← List.append_assoc] at e9
      obtain ⟨e1, e2⟩ := List.append_inj' e9 rfl
      cases e2
      rw [mm_snoc, e]
      exact h.all pre suf' e1
  · rcases List.mem_append.mp hx with h3 | h3
    · exact h.qb x h3
    · rw [List.mem_singleton.mp h3]
      refine intBits_le_of_natAbs ?_ h.bh
      have k1 : q.natAbs * low.natAbs = (high - r).natAbs := by rw [← Int.natAbs_mul]; congr 1; omega
      have k2 : 0 < low.natAbs := by omega
      have k3 : (high - r).natAbs ≤ high.natAbs + r.natAbs := by omega
      rcases Nat.lt_or_ge high.natAbs q.natAbs with k4 | k4
      · exfalso
        have k5 : (high.natAbs + 1) * low.natAbs ≤ q.natAbs * low.natAbs := Nat.mul_le_mul_right _ k4
        rw [Nat.add_mul, Nat.one_mul] at k5
        have k6 : high.natAbs * 1 ≤ high.natAbs * low.natAbs := Nat.mul_le_mul_left _ k2
        omega
      · exact k4
  · rcases Int.lt_or_le 0 low with hl | hl
    · have := hp hl; exact .inl ⟨hl, this.1, this.2⟩
    · have := hn (by omega); exact .inr ⟨by omega, this.1, this.2⟩
  · intro x hx
    cases zs with
    | nil => exact nomatch hx
    | cons z zs =>
      rcases List.mem_append.mp (show x ∈ zs ++ [q] from hx) with h3 | h3
      · exact h.tl x h3
      · rw [List.mem_singleton.mp h3]; exact (h.q1 h0 (by simp) e hp hn).1
  · intro hr hl z hz
    rw [List.getLast?_concat] at hz
    cases hz
    have hzs : zs ≠ [] := fun h9 => by subst h9; simp at hl
    exact (h.q1 h0 hzs e hp hn).2.2 hr
  · intro e9 he9 _
    rw [List.length_append]
    by_cases hz : zs = []
    · subst hz
      have k1 := intBits_le_iff.mp h.bl
      have k2 : low.natAbs * r.natAbs ≤ 2 ^ 7000 * 2 ^ 7000 := Nat.mul_le_mul (Nat.le_of_lt k1) (Nat.le_of_lt (Nat.lt_trans hrl k1))
      rw [← Nat.pow_add] at k2
      have k3 : low.natAbs * r.natAbs * 2 ^ 1 ≤ 2 ^ (7000 + 7000) * 2 ^ 1 := Nat.mul_le_mul_right _ k2
      rw [← Nat.pow_add] at k3
      exact Nat.lt_of_le_of_lt k3 (Nat.pow_lt_pow_right (by decide) (by omega))
    · have hpt := h.pot e9 he9 hz
      have k := (h.q1 h0 hz e hp hn).2.1
      have k4 : low.natAbs * (2 * r.natAbs) ≤ low.natAbs * high.natAbs := Nat.mul_le_mul_left _ k
      have e1 : low.natAbs * r.natAbs * 2 ^ (zs.length + [q].length) = low.natAbs * (2 * r.natAbs) * 2 ^ zs.length := by
        show low.natAbs * r.natAbs * 2 ^ (zs.length + 1) = _
        rw [Nat.pow_succ, Nat.mul_left_comm low.natAbs 2, Nat.mul_comm (2 ^ zs.length) 2, ← Nat.mul_assoc, Nat.mul_comm (low.natAbs * r.natAbs) 2]
      rw [e1]
      refine Nat.lt_of_le_of_lt (Nat.mul_le_mul_right _ k4) ?_
      rw [Nat.mul_comm low.natAbs]; exact hpt
theorem Eu.done {a b : Int} {zs : List Int} {high : Int} (h : Eu a b zs high 0) : (mm zs 1 0).1 * high = a ∧ (mm zs 1 0).2 * high = b := by
  have e := mm_mul high zs 1 0
  rw [Int.one_mul, Int.zero_mul, h.rel] at e
  exact ⟨(Prod.mk.inj e).1.symm, (Prod.mk.inj e).2.symm⟩
theorem Eu.sb {a b : Int} {zs pre suf : List Int} {high : Int} (h : Eu a b zs high 0) (e : zs = pre ++ suf) : intBits (mm suf 1 0).1 ≤ 19999 ∧ intBits (mm suf 1 0).2 ≤ 19999 := by
  by_cases hz : zs = []
  · rw [hz] at e
    have e9 : suf = [] := (List.append_eq_nil_iff.mp e.symm).2
    subst e9; exact ⟨Nat.le_trans (bits_lt (k := 1) (by decide) (by decide)) (by omega), Nat.le_trans (bits_lt (k := 1) (by decide) (by decide)) (by omega)⟩
  · have hhi : 0 < high.natAbs := by rcases h.big hz with a1 | a1 <;> omega
    have k := h.all pre suf e
    have e2 := mm_mul high suf 1 0
    rw [Int.one_mul, Int.zero_mul] at e2
    rw [e2] at k
    refine ⟨intBits_le_of_natAbs ?_ k.1, intBits_le_of_natAbs ?_ k.2⟩
    · rw [Int.natAbs_mul]; exact Nat.le_mul_of_pos_right _ hhi
    · rw [Int.natAbs_mul]; exact Nat.le_mul_of_pos_right _ hhi
theorem Eu.lastOk {a b : Int} {zs : List Int} {high : Int} (h : Eu a b zs high 0) (hl : 1 < zs.length) : ¬ zs.getD (-1 + (zs.length : Int)).toNat 0 < 2 := by
  have e : (-1 + (zs.length : Int)).toNat = zs.length - 1 := by omega
  rw [e]
  have k : zs.getLast? = some (zs.getD (zs.length - 1) 0) := by
    rw [List.getLast?_eq_getElem?, List.getD_eq_getElem?_getD, List.getElem?_eq_getElem (by omega)]; rfl
  exact Int.not_lt.mpr (h.last rfl hl _ k)
theorem Eu.noLow {a b : Int} {zs : List Int} {high low : Int} (h : Eu a b zs high low) : List.filter (fun a => decide (a < 1)) (List.drop 1 zs) = [] :=
  List.filter_eq_nil_iff.mpr fun x hx => by
    have k := h.tl x (by rw [← List.drop_one]; exact hx)
    simp only [decide_eq_true_eq]
    omega
end Mine

namespace Mine
section
open LCg LCt
variable {prog : Program} {w : World} {A : Around} {E : Value → Shared → Prop} {s : Shared} {h₀ : Heap} {L : Addr} {m : Str → Option Value} {env : Env}
def SrcTT (prog : Program) (w : World) (A : Around) (h₀ : Heap) (L : Addr) (m : Str → Option Value) (env : Env) (ct elt : Expr) (x : Str) (scope : Scope) (cl : List (Str × Addr)) (Fin : Shared → List Value → List (Addr × Obj) → Prop) (xv : Value) (s₁ : Shared) : Prop :=
  ∃ ax its o news, xv = .ref ax ∧ A.handled = none ∧ Fr h₀ L s₁.heap m ∧ News h₀ L s₁.heap news ∧ (ax, o) ∈ news ∧ o.cls = .type "tuple" ∧ (∃ k, o.data = .seq its k) ∧ its.size ≤ sizeLine ∧
    ∀ s₂ : Shared, (∃ h, s₂ = { s₁ with heap := h }) → CompRestT prog w A h₀ L m env ct elt x scope cl s₂ (fun nw => (ax, o) ∈ nw) (fun i v => its[i]? = some v) (Fin s₂) its.size 0 [] news
theorem SrcTT.intro {ct elt : Expr} {x : Str} {scope : Scope} {cl : List (Str × Addr)} {Fin : Shared → List Value → List (Addr × Obj) → Prop} {ax : Addr} {its : Array Value} {k : Nat} {news : List (Addr × Obj)} {s₁ : Shared}
    (hh : A.handled = none) (F : Fr h₀ L s₁.heap m) (N : News h₀ L s₁.heap news) (hm : (ax, ({ cls := .type "tuple", data := .seq its k } : Obj)) ∈ news) (hsz : its.size ≤ sizeLine)
    (h : ∀ g, CompRestT prog w A h₀ L m env ct elt x scope cl { s₁ with heap := g } (fun nw => (ax, ({ cls := .type "tuple", data := .seq its k } : Obj)) ∈ nw) (fun i v => its[i]? = some v) (Fin { s₁ with heap := g }) its.size 0 [] news) :
    SrcTT prog w A h₀ L m env ct elt x scope cl Fin (.ref ax) s₁ := ⟨ax, its, _, news, rfl, hh, F, N, hm, rfl, ⟨k, rfl⟩, hsz, fun _ ⟨g, e⟩ => e ▸ h g⟩
theorem ListComp_TT {ct elt iter : Expr} {x : Str} {px : Pos} {scope : Scope} {cl : List (Str × Addr)} {pos : Pos} {Q : Value → Shared → Prop} (F₀ : Fr h₀ L s.heap m)
    (hclos : closureFor scope env = pure cl) (hcell : ∀ y ∈ scope.names, y.2 ≠ .cell) (hkind : scope.kind = .function)
    (hnames : ∀ y ∈ scope.names, y.2 = .local → scope.names.lookup y.1 = some .local) (hx : scope.names.lookup x = some .local)
    (h : wpAny (model prog w) A (eval iter env) (SrcTT prog w A h₀ L m env ct elt x scope cl (fun s₂ => FinE h₀ L m s₂ Q)) E s)
    (hs : ∀ x, foldedSetIterable iter env x = pure x := by intro _; rfl) :
    wpAny (model prog w) A (eval (.ListComp elt [⟨.Name x px, iter, [ct], 0⟩] scope pos) env) Q E s := by
  rw [eval_ListComp]
  refine wpAny_comprehension_free (use := none) rfl hs hclos hkind hnames (wpAny_mono h (fun xv s₁ h₁ => ?_) fun _ _ e => e)
  obtain ⟨ax, its, o, news, rfl, hh, F, N, hm, hc, hd, hsz, R⟩ := h₁
  have hl : s₁.heap.IsTuple ax its := ⟨o, (N _ hm).1, hc, hd⟩
  have hlt : ax < s₁.heap.objs.size := Heap.lt_size (N _ hm).1
  refine wpAny_pyIter_tuple hl ?_
  have up : ∀ b o, s₁.heap.get? b = some o → (s₁.heap.push { cls := .type "tuple_iterator", data := .fields #[.ref ax, .int 0 0] }).get? b = some o := fun b o e => Heap.get?_push_of_some _ e
  refine block_T (Walks.tuple hh s₁.heap.objs.size ax (Nat.ne_of_lt hlt) its) hsz (fun i h st => by obtain ⟨o, e, _⟩ := st.1; exact ⟨o, e⟩)
    (fun i h h' o' nw st e e' k N S => ⟨by obtain ⟨o', q, r⟩ := st.1; rw [e] at q; cases q; exact ⟨o', e', r⟩, ⟨o, (N _ S).1, hc, hd⟩⟩) hcell hkind hx ⟨⟨_, Heap.get?_push_size _ rfl, rfl, rfl⟩, hl.push _⟩ (fun b hb => ?_)
    (F.keeps up) (N.grown up) (Nat.ne_of_lt F.ns.lt) (next_is_new F) (fun p hp => Nat.ne_of_lt (Heap.lt_size (N p hp).1)) hm (R _ ⟨_, rfl⟩) ?_
  · show b < (s₁.heap.push _).objs.size
    rw [Heap.size_push]
    rcases List.mem_cons.mp hb with rfl | hb
    · exact Nat.lt_succ_self _
    · rw [List.mem_singleton.mp hb]; exact Nat.lt_succ_of_lt hlt
  · intro D C h tk m' ys news' F' N' o1 hn hC₀ hD₀ hCL hDL hCD offC fin
    refine ⟨m', hn, fun h'' hs'' => fin D h'' tk (F'.change hs'' hCL hC₀) (fun p hp => ?_) o1⟩
    refine ⟨hs''.extBut _ _ ?_ (N' p hp).1, (N' p hp).2⟩
    rcases List.mem_cons.mp hp with rfl | hp
    · exact Ne.symm hCD
    · exact offC p hp
end
end Mine

namespace Mine
section
variable {prog : Program} {w : World} {A : Around} {E : Value → Shared → Prop} {s : Shared} {env : Env} {X N I : String}
theorem call_excM (hc : ExcClass X N I) {Q : Value → Shared → Prop}
    (h : ∀ h' e, Heap.MadeExcOf s.heap h' e (.type X) [] → Q (.ref e) { s with heap := h' }) :
    wpAny (model prog w) A (call (.type X) []) Q E s := by
  refine wpAny_call (codeAny_of_tree ?_)
  show wpAny _ _ (callAny (.type X) ⟨[], []⟩) _ _ s
  simp only [callAny]
  refine wpAny_pure ⟨Code.quiet_builtin _ (by decide +kernel), codeAny_builtin entry_type_call ?_⟩
  rw [Around.under_plain (weight_type_call X _ _) (by first | rfl | kernel_rfl | decide +kernel)]
  unfold Builtin.«type.__call__»
  dsimp only
  rw [if_neg (by rw [hc.notType]; exact Bool.false_ne_true), if_neg (by rw [hc.canNew]; exact Bool.false_ne_true)]
  obtain ⟨l, hl, hle⟩ := hc.mro
  refine wpAny_bind (wpAny_of_eq (hc.typeCall []) (wpAny_bind (wpAny_of_eq hl ?_)))
  rw [if_neg (by rw [hle]; exact Bool.false_ne_true)]
  refine wpAny_bind (wpAny_of_eq hc.madeBy ?_)
  dsimp only
  refine wpAny_bind (wpAny_pure (wpAny_bind (wpAny_holding (new_exc hc ?_))))
  refine wpAny_bind (wpAny_isInstance (T := X) ⟨_, Heap.get?_push_size _ rfl, rfl⟩ hc.self ?_)
  simp only [Bool.not_true, Bool.false_eq_true, if_false]
  refine wpAny_bind (wpAny_holding (wpAny_callSpecial?_slot (name := Str.ofString "__init__") (T := X) ⟨_, Heap.get?_push_size _ rfl, rfl⟩ hc.init
    (init_exc hc (Heap.get?_push_size _ rfl) rfl rfl rfl ?_)))
  dsimp only
  rw [if_neg (by simp)]
  refine wpAny_pure (h _ _ ⟨fun b o hb => ?_, Heap.get?_none_of_le (by simp), _, (Heap.get?_update_self _ (Heap.get?_push_of_some _ (Heap.get?_push_size _ rfl)) (Obj.isFreed_of_fields (Obj.data_mapFields rfl _))).trans rfl, Heap.get?_none_of_le (by simp only [Heap.size_push]; omega), ?_⟩)
  · rw [Heap.get?_update_other _ _ (Nat.ne_of_gt (Nat.lt_of_lt_of_le (Heap.lt_size hb) (by simp)))]
    exact Heap.get?_push_of_some _ (Heap.get?_push_of_some _ (Heap.get?_push_of_some _ hb))
  · rw [Heap.get?_update_other _ _ (by first | exact Nat.ne_of_lt (Heap.lt_size (Heap.get?_push_size _ rfl)) | (simp only [Heap.size_push]; exact Nat.ne_of_lt (Nat.lt_succ_self _)))]
    exact Heap.get?_push_size _ rfl
theorem Raise_classM {x : Str} {np pos : Pos} {Q : Flow → Shared → Prop} (hh : A.handled = none) (hc : ExcClass X N I)
    (hself : isSubtype (.type X) (.type X) = pure true)
    (hx : wpAny (model prog w) A (eval (.Name x np) env) (fun v s₁ => v = .type X ∧ s₁ = s) E s)
    (h : ∀ h' e, Heap.MadeExcOf s.heap h' e (.type X) [] → E (.ref e) { s with heap := h' }) :
    wpAny (model prog w) A (exec (.Raise (some (.Name x np)) none pos) env) Q E s := by
  show wpAny (model prog w) A (do standAt pos; raiseStmt env (some (do let v ← eval (.Name x np) env; standAt pos; pure v)) none) Q E s
  refine wpAny_bind (wpAny_standAt ?_)
  unfold raiseStmt
  dsimp only
  refine wpAny_bind (wpAny_bind (wpAny_mono hx (fun v s₁ h₁ => wpAny_bind (wpAny_standAt (wpAny_pure ?_))) fun _ _ e => e))
  obtain ⟨rfl, hs₁⟩ := h₁
  subst s₁
  refine wpAny_bind (wpAny_pure ?_)
  dsimp only
  refine wpAny_bind (wpAny_holding ?_)
  unfold excFromValue isExcClass
  refine wpAny_bind (wpAny_bind (wpAny_pure ?_))
  simp only [if_true]
  rw [hc.base]
  refine wpAny_pure ?_
  simp only [if_true]
  refine wpAny_bind (call_excM hc fun h' e hn => ?_)
  obtain ⟨t9, he, _, _⟩ := hn.there
  have hd : ({ cls := .type X, data := .fields #[.ref t9, .none, .none, .none, .bool false, .none] } : Obj).data = .fields #[.ref t9, .none, .none, .none, .bool false, .none] := rfl
  have hT : ({ s with heap := h' } : Shared).TypeIs (.ref e) X := ⟨_, he, rfl⟩
  refine wpAny_bind (wpAny_isInstance hT hc.base ?_)
  simp only [Bool.not_true, Bool.false_eq_true, if_false]
  refine wpAny_pure ?_
  first | (refine wpAny_bind (m := isType (.type X)) (wpAny_pure ?_)) | (refine wpAny_bind (wpAny_pure ?_))
  first | (rw [if_pos rfl]) | (simp only [if_true]) | dsimp only
  refine wpAny_bind (wpAny_holding ?_)
  unfold raisedFor
  first | (simp only [Bool.false_eq_true, if_false]) | (rw [if_neg (by decide)]) | skip
  first | (refine wpAny_bind (wpAny_typeOf hT ?_)) | (refine wpAny_bind ?_; refine wpAny_bind (wpAny_typeOf hT ?_))
  refine wpAny_bind (call_issubclass (issubclass_self hc hself) ?_)
  first | (refine wpAny_bind (wpAny_truthy_bool ?_)) | (refine wpAny_truthy_bool ?_) | (dsimp only [wants]; first | (refine wpAny_bind (wpAny_truthy_bool ?_)) | (refine wpAny_truthy_bool ?_))
  first | (rw [if_pos rfl]) | (simp only [if_true]) | skip
  refine wpAny_pure ?_
  unfold setFlight raiseNew
  refine wpAny_bind (wpAny_bind (wpAny_field (i := 1) (x := Value.none) he hd rfl ?_))
  rw [if_neg (by decide)]
  refine wpAny_pure (wpAny_bind (wpAny_handled ?_))
  rw [hh]
  first
    | exact wpAny_throw (h h' e hn)
    | exact wpAny_bind (wpAny_pure (wpAny_throw (h h' e hn)))
end
section
variable {prog : Program} {w : World} {A₀ : Around} {E : Value → Shared → Prop} {s' : Shared} {h₀ h : Heap} {outer : List Env} {L a e t : Addr} {m : Str → Option Value} {name : Str} {scope : Scope} {cd : Value}
  {vs : List Value} {n : Str} {b₀ : Stmt} {suite : List Stmt} {pos np : Pos} {rest : List ExceptHandler} {Q : Flow → Shared → Prop} {news : List (Addr × Obj)}
  {p : Program} {loose : List Str} {mg mb : Str → Option Value} {x : Str} {X T' : String} {K9 : Frag}
theorem caught_C (K : Below A₀ h₀ outer h₀) (F : Fr h₀ L h m) (hsm : h.UpToSlots s'.heap) (R : RaisedK h₀ (envOfC name scope L a cd :: outer) e (.type X) t vs news s'.heap)
    (X9 : K9.In h₀) (T : TopRead p loose mg mb h₀) (hg9 : nsIn K9 mainGlobals x = some none) (hv : bootBuiltins x = some (.type T'))
    (hexc : isSubtype (.type T') (.type "BaseException") = pure true) (hnt : isSubtype (.type ((Manifest.find? T').elim "type" fun y => y.metatype)) (.type "tuple") = pure false) (hsub : isSubtype (.type X) (.type T') = pure true)
    (hn : x ≠ "__name__") (hk : scope.kind = .function) (hlo : (envOfC name scope L a cd).kindOf n = some .local) (hx : (envOfC name scope L a cd).kindOf x = some .globalImplicit) (hd : (x == ("__debug__" : Str)) = false)
    (k : ∀ h' oe ot nt tk, Fr h₀ L h' (fun y => if y = n then some (.ref e) else m y) → News h₀ L h' ((e, oe) :: (t, ot) :: news) → Got ((e, oe) :: (t, ot) :: news) e t (.type X) vs → ot.cls = .type "tuple" → ot.data = .seq vs.toArray nt →
      wpAny (model prog w) ((A₀.deeper (envOfC name scope L a cd)).mark (some (.ref e))) (execs (b₀ :: suite) (envOfC name scope L a cd))
        (fun f s₄ => wpAny (model prog w) (A₀.deeper (envOfC name scope L a cd)) (do bindName (envOfC name scope L a cd) n .none; unbindBehindTheSuite (envOfC name scope L a cd) n pos) (fun _ s₅ => Q f s₅) E s₄)
        (AsSuiteRaised (model prog w) ((A₀.deeper (envOfC name scope L a cd)).mark (some (.ref e))) (envOfC name scope L a cd) n pos (notedBy (model prog w) ((A₀.deeper (envOfC name scope L a cd)).mark (some (.ref e))) (envOfC name scope L a cd) (cameBackBy (model prog w) (A₀.deeper (envOfC name scope L a cd)) (envOfC name scope L a cd) E)))
        { s' with heap := h', toks := tk }) :
    wpAny (model prog w) (A₀.deeper (envOfC name scope L a cd)) (noteFrame (.ref e) (envOfC name scope L a cd))
      (fun _ s₂ => wpAny (model prog w) (A₀.deeper (envOfC name scope L a cd)) (setFlight (.ref e) none) (fun _ s₃ =>
        wpAny (model prog w) (A₀.deeper (envOfC name scope L a cd)) (handleBy (.ref e) (envOfC name scope L a cd) (.ExceptHandler (some (.Name x np)) (some n) (b₀ :: suite) pos :: rest)) Q E s₃) E s₂) E s' := by
  obtain ⟨⟨B, hB, hl, hfl, hnew⟩, htup⟩ := R
  have hL : B.get? L = none := by
    obtain ⟨_, ⟨L', _, hf, hn', _⟩, _⟩ := hfl.2.2.1
    obtain rfl : L = L' := Option.some.inj hf
    exact hn'
  refine wpAny_looks_onW (Around.frames_deeper K.stack) rfl hfl fun h₄ hheld₄ hsm₄ => ?_
  refine wpAny_landsW hheld₄ fun h₅ hheld hsm₅' => ?_
  have hsm₅ := hsm₄.trans hsm₅'
  have hheld' := flyingW_base hB hheld
  have F₅ := F.of_stays hheld'.1 (hsm.trans hsm₅)
  obtain ⟨ob, hob, hobc⟩ := hheld'.there
  refine wpAny_handleBy_builtin_as (X := X) (T := T') (b := true) hexc hnt hsub (Calls.Name_function_global hk hx (Calls.loadGlobal_builtin (env := envOfC name scope L a cd) (T.g.keeps F₅.keep) (mg_none_of X9 T.g hg9) (T.b.keeps F₅.keep) ((T.builtins x hn).trans hv) ⟨rfl, ⟨ob, hob, hobc⟩, ?_⟩) hd)
  refine lands_againW hheld fun h₆ hfl₆ hsm₆ => ?_
  have hfl₆' := flyingW_base hB hfl₆
  have F₆ := F.of_stays hfl₆'.1 ((hsm.trans hsm₅).trans hsm₆)
  obtain ⟨oe, ws, hoe, hoec, hoed, hoe0⟩ := hfl₆'.first
  obtain ⟨ot, nt, hot, hotc, hotd⟩ := (htup.of_slots hsm₅).of_slots hsm₆
  have N₆ := News.more F₆ (News.more F₆ News.nil hot (fun es n q => by rw [hotd] at q; cases q) (fresh_of_stays hB hnew)) hoe (fun es n q => by rw [hoed] at q; cases q) hfl₆'.2.1
  have Nl : News h₀ L h₆ news := fun q hq => ⟨hfl₆.1 _ _ (hl q hq).1, (fun z => by have := (hl q hq).1; rw [z, hL] at this; cases this), (hl q hq).2⟩
  have N₈ : News h₀ L h₆ ((e, oe) :: (t, ot) :: news) := fun q hq => (List.mem_cons.mp hq).elim (fun z => N₆ q (z ▸ .head _)) fun hq => (List.mem_cons.mp hq).elim (fun z => N₆ q (z ▸ .tail _ (.head _))) (Nl q)
  refine wpAny_storeName_local hlo F₆.ns (fun h₇ hn₇ hs₇ => ?_) (by show (scope.kind == .class || (scope.kind == .module && L != mainGlobals)) = false; rw [hk]; rfl)
  exact k h₇ oe ot nt _ (F₆.set hn₇ hs₇) (N₈.set hs₇) ⟨oe, ot, ws, nt, .head _, .tail _ (.head _), hoec, hoed, hoe0, hotc, hotd⟩ hotc hotd
end
section
variable {prog : Program} {w : World} {A : Around} {E : Value → Shared → Prop} {s : Shared}
theorem eq_tup0 {l b : Addr} {Q : Value → Shared → Prop} (hl : s.heap.IsTuple l #[]) (hb : s.heap.IsTuple b #[]) (hu : A.units < cLine) (h : Q (.bool true) s) : wpAny (model prog w) A (compareOp .Eq (.ref l) (.ref b)) Q E s :=
  PySem.SeqAt.eq_tupleAt (e := fun _ => true) hl hb hu (fun j h1 => absurd h1 (Nat.not_lt_zero _)) h
end
section
variable {M : Model} {A : Around} {E : Value → Shared → Prop} {s : Shared} {h₀ : Heap} {L a : Addr} {m : Str → Option Value} {name : Str} {scope : Scope} {cd : Value} {news : List (Addr × Obj)}
theorem name_goesC {n : Str} {pos : Pos} {Q : Unit → Shared → Prop} (F : Fr h₀ L s.heap m) (N : News h₀ L s.heap news) (hk : scope.kind = .function) (hl : (envOfC name scope L a cd).kindOf n = some .local)
    (h : ∀ h' m', Fr h₀ L h' m' → News h₀ L h' news → Q () { s with heap := h', toks := s.toks + 1 }) :
    wpAny M A (do bindName (envOfC name scope L a cd) n .none; unbindBehindTheSuite (envOfC name scope L a cd) n pos) Q E s :=
  wpAny_nameGoes hl F.ns (by show (scope.kind == .class || (scope.kind == .module && L != mainGlobals)) = false; rw [hk]; rfl) fun h' m' hn hs => h h' m' (F.set hn hs) (N.set hs)
end
end Mine

namespace Mine
open Builtin.Int (intBits)
def JE (zs : List Int) (base : List (Addr × Obj)) (mF : Str → Option Value) (_ : Str → Option Value) (l : List Value) (m : Str → Option Value) (news : List (Addr × Obj)) : Prop :=
  ∃ (ns suf : List Int) (ta tb : Tok) (u : Option Value), IntsAre l ns ∧ zs = ns.reverse ++ suf ∧ news = base ∧
    m = fun y => if y = Str.ofString "below" then some (.int (mm suf 1 0).2 tb) else if y = Str.ofString "above" then some (.int (mm suf 1 0).1 ta) else if y = Str.ofString "quotient" then u else mF y
section
local macro_rules | `(tactic| k_all) => `(tactic| assumption)
local macro_rules | `(tactic| walk_at "pyIter ref") => `(tactic| (k_here; (refine Mine.Stop.out ?_)))
local macro_rules | `(tactic| walk_at "exec Raise some none") => `(tactic| (k_here; (with_reducible show wpAny _ _ (exec (PySem.Stmt.Raise (some (PySem.Expr.Name _ _)) none _) _) _ _ _); (with_reducible rename Fr _ _ _ _ => kF); k_dflt (refine' Mine.Raise_classM ?hh excClass_ZeroDivisionError ?hs ?hx ?_; (case hh => rfl); (case hs => (rw [isSubtype_type]; kernel_rfl)); (case hx => (refine' name_B kF ?k1 ?k2 ?k3 ?k4 ?k5 ?_; (case k1 => k_asm); (case k2 => k_asm); (case k3 => k_is); (case k4 => boot_by_name); (case k5 => decide); exact ⟨rfl, rfl⟩))); intro h' e' hx'))
local macro_rules | `(tactic| walk_at "noteFrame ref") => `(tactic| (k_here; (rename RaisedK _ _ _ _ _ _ _ _ => rkX); (refine' Mine.caught_C (T' := "ZeroDivisionError") ?K ?F ?U rkX ?X ?T ?g PyProof.Rows.Boot.«ZeroDivisionError» PySem.F.isExc_ZeroDivisionError PySem.F.notTuple_ZeroDivisionError ?sub ?hn ?hk ?hlo ?hx ?hd ?_; (case K => assumption); (case F => assumption); (case U => assumption); (case X => k_asm); (case T => k_asm); (case g => k_is); (case sub => (rw [isSubtype_type]; kernel_rfl)); (case hn => decide +kernel); (case hk => rfl); (case hlo => rfl); (case hx => rfl); (case hd => decide)); intro h' oe' ot' nt' tk' F' N' G' hoc' hod'; (try k_sweep)))
local macro_rules | `(tactic| walk_at "compareOp Eq ref ref") => `(tactic| (k_here; (refine' Mine.eq_tup0 ?l ?b ?u ?_; (case l => exact ⟨_, News.get (by k_asm) (by k_mem), by assumption, _, by assumption⟩); (case b => exact ⟨_, News.get (by k_asm) (by k_mem), rfl, _, rfl⟩); (case u => ke_room))))
local macro_rules | `(tactic| walk_at "bind") => `(tactic| ((with_reducible show wpAny _ _ (do bindName (envOfC _ _ _ _ _) _ Value.none; unbindBehindTheSuite (envOfC _ _ _ _ _) _ _) _ _ _); (refine Mine.Stop.out ?_)))
local macro_rules | `(tactic| walk_at "UnrEnd") => `(tactic| (k_here; (refine Mine.Stop.out ?_)))
variable {prog : Program} {w : World} {p : Program} {loose : List Str} {mean : ExcName → Option Value} {mg mb : Str → Option Value}
theorem lawE {oc75 : Value} {od75 : Option Addr} {name75 qual75 : Str} {params75 : Arguments} {scope75 : Scope} {st1 st2 st3 st4 st5 st6 st7 st8 st9 st10 st11 st12 : Stmt} {rest75 : List Stmt} {dV kV doc75 pm75 : Value} {an : Option Addr} {cdv75 ct : Value} {osl : Array (Option Value)}
    (hL : (Mine.hd.heap_39 w.params).lookup 75 = some ⟨oc75, od75, .func (fnOf name75 qual75 params75 (st1 :: st2 :: st3 :: st4 :: st5 :: st6 :: st7 :: st8 :: st9 :: st10 :: st11 :: st12 :: rest75) scope75 dV kV doc75 pm75 an cdv75 ct), osl⟩)
    {fa : Addr} {cd : Value} {h₀ : Heap} {L R : Nat} {m0 : Str → Option Value} {s : Shared} {a b high : Int} {t1 t2 t3 t4 th tl : Tok} {u1 u2 u3 : Option Value} {qs : List Value} {zs : List Int} {kq : Nat} {ps37 ps30 : Array Value}
    {Q : Flow → Shared → Prop}
    (B : Below callerA h₀ [] h₀) (F : Fr h₀ L s.heap (fun y => if y = Str.ofString "high" then some (.int high th) else if y = Str.ofString "low" then some (.int 0 tl) else if y = Str.ofString "told" then u1 else if y = Str.ofString "quotient" then u2 else if y = Str.ofString "rest" then u3 else
      (fun y => if y = Str.ofString "low" then some (.int b t1) else if y = Str.ofString "high" then some (.int a t2) else if y = Str.ofString "row" then some (.ref R) else if y = Str.ofString "b" then some (.int b t3) else if y = Str.ofString "a" then some (.int a t4) else m0 y) y))
    (X : (Mine.hd.heap_39 w.params).In h₀) (N : News h₀ L s.heap [(R, listOf qs.toArray kq), (37, tabObj ps37), (30, tabObj ps30)]) (T : Top p loose mean mg mb h₀)
    (hqs : IntsAre qs zs) (hEu : Eu a b zs high 0)
    (hR : R ≠ 37 ∧ R ≠ 30)
    (hret : ∀ h' tk' m' ps37' ps30' rest, Fr h₀ L h' m' → News h₀ L h' ((37, tabObj ps37') :: (30, tabObj ps30') :: rest) → Q (.ret (.bool true)) { s with heap := h', toks := tk' }) :
    wpAny (model prog w) (callerA.deeper (envOfC qual75 scope75 L fa cd)) (execs rest75 (envOfC qual75 scope75 L fa cd)) Q (fun _ _ => False) s := by
  have e : some _ = some _ := Eq.trans (Eq.symm (by k_is)) hL
  clear hL
  cases e
  have hql := hqs.length
  have hln := hEu.ln
  have hbh := hEu.bh
  have hRa : @Ne Nat 37 R := Ne.symm hR.1
  have hRb : @Ne Nat 30 R := Ne.symm hR.2
  k_steps
  refine Stop.go ?_
  rename_i I9 h93 F9 N9 l1
  have hb1 : ∀ p ∈ ([(R, listOf qs.toArray kq), (37, tabObj ps37), (30, tabObj ps30)] : List (Addr × Obj)), p.1 ≠ I9 := List.forall_mem_cons.mpr ⟨Nat.ne_of_lt l1.1, List.forall_mem_cons.mpr ⟨Nat.ne_of_lt l1.2.1, List.forall_mem_cons.mpr ⟨Nat.ne_of_lt l1.2.2, fun p hp => nomatch hp⟩⟩⟩
  refine iter_revUnr (lo := listOf qs.toArray kq) (vs := qs) rfl F9 N9 (offI_of hb1) (.head _) rfl rfl (rev_use (JE zs [(R, listOf qs.toArray kq), (37, tabObj ps37), (30, tabObj ps30)] (fun y => if y = Str.ofString "high" then some (.int high th) else if y = Str.ofString "low" then some (.int 0 tl) else if y = Str.ofString "told" then u1 else if y = Str.ofString "quotient" then u2 else if y = Str.ofString "rest" then u3 else
      (fun y => if y = Str.ofString "low" then some (.int b t1) else if y = Str.ofString "high" then some (.int a t2) else if y = Str.ofString "row" then some (.ref R) else if y = Str.ofString "b" then some (.int b t3) else if y = Str.ofString "a" then some (.int a t4) else m0 y) y)) ?start ?done ?turn)
  case start =>
    refine' ⟨zs.reverse, [], _, _, u2, ints_reverse hqs, by simp, rfl, funext fun y => ?_⟩
    rotate_left 2
    · by_cases h1 : y = Str.ofString "below"
      · subst h1; rfl
      · by_cases h2 : y = Str.ofString "above"
        · subst h2; rfl
        · by_cases h3 : y = Str.ofString "quotient"
          · subst h3; rfl
          · simp only [if_neg h1, if_neg h2, if_neg h3]
  case done =>
    rintro m9 news9 ⟨ns, suf, ta, tb, u9, hes, e9, rfl, rfl⟩ h9 tk9 F9 N9
    have ens : ns = [] := by cases hes with | nil => rfl
    subst ens
    have e8 : zs = suf := e9
    subst e8
    have hdn := hEu.done
    have hsb := hEu.sb (pre := []) rfl
    have hs1 := hsb.1
    have hs2 := hsb.2
    k_steps
    · rename_i hx
      exact absurd hdn.1 hx
    · rename_i hx
      exact absurd hdn.2 hx
    · try
        refine wpAny_Try_except ?_
        k_steps
      refine Stop.go ?_
      refine name_goesC (by assumption) (by k_asm) rfl rfl ?_
      intro h7 m7 F7 N7
      exact hret _ _ _ _ _ [] F7 (news_sub N7 fun p hp => .tail _ (.tail _ (.tail _ (.tail _ hp))))
  case turn =>
    rintro v es m9 news9 ⟨ns, suf, ta, tb, u9, hes, e9, rfl, rfl⟩ it h9 tk9 hit F9 N9
    cases hes with
    | cons d td hes' =>
      rename_i ns'
      have e8 : zs = ns'.reverse ++ (d :: suf) := by rw [e9, List.reverse_cons, List.append_assoc]; rfl
      have hsb := hEu.sb e9
      have hs1 := hsb.1
      have hs2 := hsb.2
      have hdb : intBits d ≤ 19999 := hEu.qb d (by rw [e8]; exact List.mem_append_right _ (.head _))
      k_steps
      refine Stop.go ?_
      refine UnrEnd.intro (by assumption) (by assumption) [(R, listOf qs.toArray kq), (37, tabObj ps37), (30, tabObj ps30)] (fun p hp => .tail _ hp) hb1 ⟨.head _, ns', d :: suf, tk9 + 1, ta, some (.int d td), hes', e8, rfl, funext fun y => ?_⟩
      · by_cases h1 : y = Str.ofString "below"
        · subst h1; rfl
        · by_cases h2 : y = Str.ofString "above"
          · subst h2; rfl
          · by_cases h3 : y = Str.ofString "quotient"
            · subst h3; rfl
            · simp only [if_neg h1, if_neg h2, if_neg h3]
end
end Mine

namespace Mine
open Builtin.Int (intBits)
section
local macro_rules | `(tactic| k_all) => `(tactic| assumption)
local macro_rules | `(tactic| walk_at "execs cons") => `(tactic| (k_here; (with_reducible show wpAny _ _ (execs (PySem.Stmt.Assign _ _ _ :: _) _) _ _ _); (refine Mine.Stop.out ?_)))
variable {prog : Program} {w : World} {p : Program} {loose : List Str} {mean : ExcName → Option Value} {mg mb : Str → Option Value}

theorem lawD {oc75 : Value} {od75 : Option Addr} {name75 qual75 : Str} {params75 : Arguments} {scope75 : Scope} {st1 st2 st3 st4 st5 st6 st7 st8 st9 st10 : Stmt} {rest75 : List Stmt} {dV kV doc75 pm75 : Value} {an : Option Addr} {cdv75 ct : Value} {osl : Array (Option Value)}
    (hL : (Mine.hd.heap_39 w.params).lookup 75 = some ⟨oc75, od75, .func (fnOf name75 qual75 params75 (st1 :: st2 :: st3 :: st4 :: st5 :: st6 :: st7 :: st8 :: st9 :: st10 :: rest75) scope75 dV kV doc75 pm75 an cdv75 ct), osl⟩)
    {fa : Addr} {cd : Value} {h₀ : Heap} {L R : Nat} {m0 : Str → Option Value} {s : Shared} {a b high : Int} {t1 t2 t3 t4 th tl : Tok} {u1 u2 u3 : Option Value} {qs : List Value} {zs : List Int} {kq : Nat} {ps37 ps30 : Array Value}
    {Q : Flow → Shared → Prop}
    (B : Below callerA h₀ [] h₀) (F : Fr h₀ L s.heap (fun y => if y = Str.ofString "high" then some (.int high th) else if y = Str.ofString "low" then some (.int 0 tl) else if y = Str.ofString "told" then u1 else if y = Str.ofString "quotient" then u2 else if y = Str.ofString "rest" then u3 else
      (fun y => if y = Str.ofString "low" then some (.int b t1) else if y = Str.ofString "high" then some (.int a t2) else if y = Str.ofString "row" then some (.ref R) else if y = Str.ofString "b" then some (.int b t3) else if y = Str.ofString "a" then some (.int a t4) else m0 y) y))
    (X : (Mine.hd.heap_39 w.params).In h₀) (N : News h₀ L s.heap [(R, listOf qs.toArray kq), (37, tabObj ps37), (30, tabObj ps30)]) (T : Top p loose mean mg mb h₀)
    (hqs : IntsAre qs zs) (hEu : Eu a b zs high 0)
    (hR : R ≠ 37 ∧ R ≠ 30)
    (hret : ∀ h' tk' m' ps37' ps30' rest, Fr h₀ L h' m' → News h₀ L h' ((37, tabObj ps37') :: (30, tabObj ps30') :: rest) → Q (.ret (.bool true)) { s with heap := h', toks := tk' }) :
    wpAny (model prog w) (callerA.deeper (envOfC qual75 scope75 L fa cd)) (execs rest75 (envOfC qual75 scope75 L fa cd)) Q (fun _ _ => False) s := by
  have e : some _ = some _ := Eq.trans (Eq.symm (by k_is)) hL
  clear hL
  cases e
  have hql := hqs.length
  have hln := hEu.ln
  have hRa : @Ne Nat 37 R := Ne.symm hR.1
  have hRb : @Ne Nat 30 R := Ne.symm hR.2
  have hf := hEu.noLow
  have hlast := hEu.lastOk
  k_steps
  · rename_i hx
    exact absurd hx (hlast (by omega))
  · refine Stop.go ?_
    refine lawE (ps37 := ps37) (ps30 := ps30) (kq := kq) (by k_is) B (by assumption) X (news_sub (by k_asm) ?ns) T hqs hEu hR hret
    intro p hp
    exact .tail _ (.tail _ (.tail _ hp))
  · refine Stop.go ?_
    refine lawE (ps37 := ps37) (ps30 := ps30) (kq := kq) (by k_is) B (by assumption) X (news_sub (by k_asm) ?nt) T hqs hEu hR hret
    intro p hp
    exact .tail _ (.tail _ (.tail _ hp))
  · rename_i hx
    rw [hf] at hx
    simp at hx
end
end Mine

namespace Mine
open Builtin.Int (intBits)
section
variable {prog : Program} {w : World} {A : Around} {E : Value → Shared → Prop} {Q : Flow → Shared → Prop} {s : Shared} {env : Env} {h₀ : Heap} {L : Addr}
theorem while_use {test : Expr} {body : List Stmt} {pos : Pos} {m : Str → Option Value} {news : List (Addr × Obj)} (J : (Str → Option Value) → Nat → (Str → Option Value) → List (Addr × Obj) → Prop) {n₀ : Nat}
    (F : Fr h₀ L s.heap m) (N : News h₀ L s.heap news) (hE : PassesOwn (model prog w) A env E) (hJ : J m n₀ m news)
    (turn : ∀ n m₁ news₁ h₁ tk₁, Fr h₀ L h₁ m₁ → News h₀ L h₁ news₁ → J m n m₁ news₁ →
      wpAny (model prog w) A (isTrue test env (eval test env)) (fun b s₂ =>
        if b = true then wpAny (model prog w) A (execs body env) (WhileStep2 h₀ L s (J m) Q n) E s₂ else Q .next s₂) E { s with heap := h₁, toks := tk₁ }) :
    wpAny (model prog w) A (exec (.While test body [] pos) env) Q E s := While_inv2 (J m) F N hJ turn hE
end
def JB (a b : Int) (R : Nat) (m0 : Str → Option Value) (n : Nat) (m : Str → Option Value) (news : List (Addr × Obj)) : Prop :=
  ∃ (zs : List Int) (qs : List Value) (kq : Nat) (high low : Int) (th tl : Tok) (u1 u2 u3 : Option Value) (ps37 ps30 : Array Value) (rest : List (Addr × Obj)),
    n = low.natAbs ∧ Eu a b zs high low ∧ IntsAre qs zs ∧ news = (R, listOf qs.toArray kq) :: (37, tabObj ps37) :: (30, tabObj ps30) :: rest ∧ (∀ p ∈ rest, p.1 ≠ 37 ∧ p.1 ≠ 30) ∧ (∀ p ∈ rest, p.1 ≠ R) ∧ TabOk 47 4 q37 ps37 rest ∧ TabOk 32 4 q30 ps30 rest ∧
    m = fun y => if y = Str.ofString "high" then some (.int high th) else if y = Str.ofString "low" then some (.int low tl) else if y = Str.ofString "told" then u1 else if y = Str.ofString "quotient" then u2 else if y = Str.ofString "rest" then u3 else m0 y
section
local macro_rules | `(tactic| walk_at "call ref") => `(tactic| (k_here; (with_reducible show wpAny _ _ (call (Value.ref 56) _) _ _ _); (refine Mine.Stop.out ?_)))
local macro_rules | `(tactic| walk_at "exec While Compare cons nil") => `(tactic| (k_here; (refine Mine.Stop.out ?_)))
local macro_rules | `(tactic| walk_at "execs cons") => `(tactic| (k_here; (with_reducible show wpAny _ _ (execs (PySem.Stmt.If (PySem.Expr.Compare (PySem.Expr.ListComp _ _ _ _) _ _ _) _ _ _ :: _) _) _ _ _); (refine Mine.Stop.out ?_)))
local macro_rules | `(tactic| k_all) => `(tactic| assumption)
local macro_rules | `(tactic| walk_at "call builtin:list.append") => `(tactic| (k_here; (k_dflt (refine Mine.append_lst (by k_asm) (by k_asm) (by k_upd) (by omega) ?_)); intro h' F' N'))
local macro_rules | `(tactic| walk_at "WhileStep2") => `(tactic| (k_here; (refine Mine.Stop.out ?_)))
local macro_rules | `(tactic| walk_at "eval ListComp") => `(tactic| (k_here; lct_look; (k_dflt (refine Mine.ListComp_TT (F₀ := by k_asm) (by with_unfolding_all rfl) (by decide) (by rfl) (by decide) (by rfl) ?_))))
local macro_rules | `(tactic| walk_at "SrcTT") => `(tactic| ((k_dflt (refine Mine.SrcTT.intro (by rfl) (by k_asm) (by k_asm) (by k_mem) (by first | size_fits | exact Nat.le_of_ble_eq_true rfl) ?_)); intro g'; lct_lit))
local macro_rules | `(tactic| walk_at "CompEnd") => `(tactic| (refine LCg.CompEnd.intro (by assumption) (by assumption) _ (fun p hp => hp) (by first | assumption | ((simp only [LCg.Off3]); (repeat' apply And.intro) <;> assumption)) (by k_mem) ?_))
variable {prog : Program} {w : World} {p : Program} {loose : List Str} {mean : ExcName → Option Value} {mg mb : Str → Option Value}

theorem TabOk.dropL {ln col : Int} {q : Str} {ps : Array Value} {rest l : List (Addr × Obj)} {h₀ h : Heap} {L P : Addr} {its : Array Value} {k : Nat} (T : TabOk ln col q ps rest) (N : News h₀ L h l) (hl : ∀ p ∈ rest, p ∈ l) (hP : (P, listOf its k) ∈ l) :
    TabOk ln col q ps (rest.filter fun p => p.1 != P) :=
  ⟨T.ok.imp id fun ⟨c, oc, vs, t, a, b, d, e⟩ => ⟨c, oc, vs, t, a, List.mem_filter.mpr ⟨b, by
    show (c != P) = true
    rw [bne_iff_ne]
    intro hc
    have h1 := (N _ (hl _ b)).1
    have h2 := (N _ hP).1
    rw [show ((c, oc) : Addr × Obj).1 = P from hc] at h1
    rw [h1] at h2
    have h3 : oc = listOf its k := Option.some.inj h2
    rw [h3] at d
    cases d⟩, d, e⟩⟩

theorem lawC {oc75 : Value} {od75 : Option Addr} {name75 qual75 : Str} {params75 : Arguments} {scope75 : Scope} {st1 st2 st3 st4 st5 st6 st7 st8 st9 : Stmt} {rest75 : List Stmt} {dV kV doc75 pm75 : Value} {an : Option Addr} {cdv75 ct : Value} {osl : Array (Option Value)}
    (hL : (Mine.hd.heap_39 w.params).lookup 75 = some ⟨oc75, od75, .func (fnOf name75 qual75 params75 (st1 :: st2 :: st3 :: st4 :: st5 :: st6 :: st7 :: st8 :: st9 :: rest75) scope75 dV kV doc75 pm75 an cdv75 ct), osl⟩)
    {fa : Addr} {cd : Value} {h₀ : Heap} {L R : Nat} {m0 : Str → Option Value} {news : List (Addr × Obj)} {s : Shared} {a b : Int} {t1 t2 t3 t4 : Tok} {ps37 ps30 : Array Value}
    {Q : Flow → Shared → Prop}
    (B : Below callerA h₀ [] h₀) (F : Fr h₀ L s.heap (fun y => if y = Str.ofString "low" then some (.int b t1) else if y = Str.ofString "high" then some (.int a t2) else if y = Str.ofString "row" then some (.ref R) else if y = Str.ofString "b" then some (.int b t3) else if y = Str.ofString "a" then some (.int a t4) else m0 y))
    (X : (Mine.hd.heap_39 w.params).In h₀) (N : News h₀ L s.heap ((R, listOf #[] 0) :: (37, tabObj ps37) :: (30, tabObj ps30) :: news)) (T : Top p loose mean mg mb h₀)
    (hA : intBits a ≤ 19999) (hB : intBits b ≤ 7000)
    (hne : ∀ p ∈ news, p.1 ≠ 37 ∧ p.1 ≠ 30) (hneR : ∀ p ∈ news, p.1 ≠ R) (hR : R ≠ 37 ∧ R ≠ 30) (hT37 : TabOk 47 4 q37 ps37 news) (hT30 : TabOk 32 4 q30 ps30 news)
    (hret : ∀ h' tk' m' ps37' ps30' rest, Fr h₀ L h' m' → News h₀ L h' ((37, tabObj ps37') :: (30, tabObj ps30') :: rest) → Q (.ret (.bool true)) { s with heap := h', toks := tk' }) :
    wpAny (model prog w) (callerA.deeper (envOfC qual75 scope75 L fa cd)) (execs rest75 (envOfC qual75 scope75 L fa cd)) Q (fun _ _ => False) s := by
  have e : some _ = some _ := Eq.trans (Eq.symm (by k_is)) hL
  clear hL
  cases e
  have hcode1 : CodeHd h₀ 34 30 := codeHd_of_K X (by kernel_rfl)
  k_steps
  refine Stop.go ?_
  refine while_use (n₀ := b.natAbs) (JB a b R) F N PassesOwn.never ?start ?turn
  case start =>
    refine ⟨[], [], 0, a, b, t2, t1, m0 (Str.ofString "told"), m0 (Str.ofString "quotient"), m0 (Str.ofString "rest"), ps37, ps30, news, rfl, Eu.start hA hB, .nil, rfl, hne, hneR, hT37, hT30, funext fun y => ?_⟩
    by_cases h1 : y = Str.ofString "high"
    · subst h1; rfl
    · by_cases h2 : y = Str.ofString "low"
      · subst h2; rfl
      · by_cases h3 : y = Str.ofString "told"
        · subst h3; rfl
        · by_cases h4 : y = Str.ofString "quotient"
          · subst h4; rfl
          · by_cases h5 : y = Str.ofString "rest"
            · subst h5; rfl
            · simp only [if_neg h1, if_neg h2, if_neg h3, if_neg h4, if_neg h5]
  case turn =>
    rintro n1 m1 news1 h1 tk1 F1 N1 ⟨zs, qs, kq, high, low, th, tl, u1, u2, u3, ps371, ps301, rest1, rfl, hEu, hqs, rfl, hne1, hneR1, hT371, hT301, rfl⟩
    clear F N
    k_steps
    · have h0 : low ≠ 0 := by assumption
      have hdq := dqr (a := high) h0
      have hst := hEu.step h0 hdq.1 hdq.2.1 hdq.2.2
      have hql := hqs.length
      refine Stop.go ?_
      refine c9 high low _ _ hEu.bh h0 hEu.bl _ _ _ _ _ _ _ _ _ _ _ _ _ _ ((R, listOf qs.toArray kq) :: rest1) _ _ _ _ _ (by k_asm) (by k_asm) (by k_asm) (news_sub (l := (R, listOf qs.toArray kq) :: (37, tabObj ps371) :: (30, tabObj ps301) :: rest1) (by k_asm) ?s1) (by k_asm) rfl ?s2 ?s3 ?s4 (hT371.mono fun p hp => .tail _ hp) (hT301.mono fun p hp => .tail _ hp) ?s5
      case s1 =>
        intro p hp
        simp only [List.mem_cons] at hp ⊢
        rcases hp with h | h | h | h <;> simp [h]
      case s2 => decide
      case s3 => decide
      case s4 => exact List.forall_mem_cons.mpr ⟨hR, hne1⟩
      case s5 =>
        intro q8 t8 u8 ps378 ps308 rest8 h8 tk8 F8 N8 hs8 hn8 hT8 hT8'
        have hRm : (R, listOf qs.toArray kq) ∈ rest8 := hs8 _ (.head _)
        have hq8R : @Ne Nat q8 R := fun e => by
          have h1 := (N8 _ (.head _)).1
          have h2 := (N8 _ (.tail _ (.tail _ (.tail _ hRm)))).1
          rw [show ((q8, tup2 (dq high low) (dr high low) t8 u8) : Addr × Obj).1 = R from e] at h1
          rw [h1] at h2
          have h3 : (Value.type "tuple") = Value.type "list" := congrArg Obj.cls (Option.some.inj h2)
          exact absurd h3 (by decide)
        have hT8a := hT8.dropL N8 (fun p hp => .tail _ (.tail _ (.tail _ hp))) (.tail _ (.tail _ (.tail _ hRm)))
        have hT8b := hT8'.dropL N8 (fun p hp => .tail _ (.tail _ (.tail _ hp))) (.tail _ (.tail _ (.tail _ hRm)))
        have N9 : News h₀ L h8 ((q8, tup2 (dq high low) (dr high low) t8 u8) :: (R, listOf qs.toArray kq) :: (37, tabObj ps378) :: (30, tabObj ps308) :: rest8.filter fun p => p.1 != R) := news_sub N8 fun p hp => by
          rcases List.mem_cons.mp hp with rfl | hp
          · exact .head _
          · rcases List.mem_cons.mp hp with rfl | hp
            · exact .tail _ (.tail _ (.tail _ hRm))
            · rcases List.mem_cons.mp hp with rfl | hp
              · exact .tail _ (.head _)
              · rcases List.mem_cons.mp hp with rfl | hp
                · exact .tail _ (.tail _ (.head _))
                · exact .tail _ (.tail _ (.tail _ (List.mem_filter.mp hp).1))
        have hnR : ∀ p ∈ rest8.filter fun p => p.1 != R, p.1 ≠ R := fun p hp => bne_iff_ne.mp (List.mem_filter.mp hp).2
        have hn9 : ∀ p ∈ rest8.filter fun p => p.1 != R, p.1 ≠ 37 ∧ p.1 ≠ 30 := fun p hp => hn8 p (List.mem_filter.mp hp).1
        clear N8 hT8 hT8' hs8 hn8 hRm
        generalize (rest8.filter fun p => p.1 != R) = rest9 at N9 hnR hn9 hT8a hT8b
        have hRa : @Ne Nat 37 R := Ne.symm hR.1
        have hRb : @Ne Nat 30 R := Ne.symm hR.2
        k_steps
        refine Stop.go ?_
        rename_i F9 N99
        refine ⟨_, _, _, _, _, rfl, F9, (show News h₀ L _ ((R, listOf (qs ++ [Value.int (dq high low) t8]).toArray (kq + 1)) :: (37, tabObj ps378) :: (30, tabObj ps308) :: rest9) from news_sub N99 (fun p hp => .tail _ (.tail _ (.tail _ hp)))), hst.2.1, zs ++ [dq high low], _, _, low, dr high low, tl, u8, some (.ref q8), some (.int (dq high low) t8), some (.int (dr high low) u8), _, _, _, rfl, hst.1, ints_snoc hqs, rfl, hn9, hnR, hT8a, hT8b, funext fun y => ?_⟩
        by_cases h1 : y = Str.ofString "high"
        · subst h1; rfl
        · by_cases h2 : y = Str.ofString "low"
          · subst h2; rfl
          · by_cases h3 : y = Str.ofString "told"
            · subst h3; rfl
            · by_cases h4 : y = Str.ofString "quotient"
              · subst h4; rfl
              · by_cases h5 : y = Str.ofString "rest"
                · subst h5; rfl
                · simp only [if_neg h1, if_neg h2, if_neg h3, if_neg h4, if_neg h5]
    · refine Stop.go ?_
      have h0 : low = 0 := by assumption
      subst h0
      refine lawD (ps37 := ps371) (ps30 := ps301) (kq := kq) (by k_is) B (by assumption) X (news_sub N1 fun p hp => ?_) T hqs hEu hR hret
      rcases List.mem_cons.mp hp with rfl | hp
      · exact .head _
      · rcases List.mem_cons.mp hp with rfl | hp
        · exact .tail _ (.head _)
        · rcases List.mem_cons.mp hp with rfl | hp
          · exact .tail _ (.tail _ (.head _))
          · exact nomatch hp
end
end Mine

namespace Mine
open Builtin.Int (intBits)
section
local macro_rules | `(tactic| walk_at "execs cons") => `(tactic| (k_here; (with_reducible show wpAny _ _ (execs (PySem.Stmt.While _ _ _ _ :: _) _) _ _ _); (refine Mine.Stop.out ?_)))
local macro_rules | `(tactic| walk_at "binaryOp Pow int int") => `(tactic| (k_here; (with_reducible refine pow_int_small ?kb1 ?kb2 ?kb3 ?_); (case kb1 => omega); (case kb2 => omega); (case kb3 => decide)))
variable {prog : Program} {w : World} {p : Program} {loose : List Str} {mean : ExcName → Option Value} {mg mb : Str → Option Value}

theorem lawB {oc75 : Value} {od75 : Option Addr} {name75 qual75 : Str} {params75 : Arguments} {scope75 : Scope} {st1 st2 st3 : Stmt} {rest75 : List Stmt} {dV kV doc75 pm75 : Value} {an : Option Addr} {cdv75 ct : Value} {osl : Array (Option Value)}
    (hL : (Mine.hd.heap_39 w.params).lookup 75 = some ⟨oc75, od75, .func (fnOf name75 qual75 params75 (st1 :: st2 :: st3 :: rest75) scope75 dV kV doc75 pm75 an cdv75 ct), osl⟩)
    {fa : Addr} {cd : Value} {h₀ : Heap} {L D : Nat} {m0 : Str → Option Value} {news : List (Addr × Obj)} {s : Shared} {ys : List Value} {ns : List Int} {kD : Nat} {near far : Int} {tnr tfr : Tok} {ps37 ps30 : Array Value}
    {Q : Flow → Shared → Prop}
    (B : Below callerA h₀ [] h₀) (F : Fr h₀ L s.heap (fun y => if y = Str.ofString "far" then some (.int far tfr) else if y = Str.ofString "near" then some (.int near tnr) else if y = Str.ofString "cells" then some (.ref D) else m0 y))
    (X : (Mine.hd.heap_39 w.params).In h₀) (N : News h₀ L s.heap ((D, listOf ys.toArray kD) :: (37, tabObj ps37) :: (30, tabObj ps30) :: news)) (T : Top p loose mean mg mb h₀)
    (hys : IntsAre ys ns) (hlen : ns.length = 4) (hbd : ∀ i, intBits (ns.getD i 0) ≤ 41) (hn0 : 0 ≤ near) (hn1 : near < 5000) (hf0 : 0 ≤ far) (hf1 : far < 10100)
    (hD : D ≠ 37 ∧ D ≠ 30) (hne : ∀ p ∈ news, p.1 ≠ 37 ∧ p.1 ≠ 30) (hT37 : TabOk 47 4 q37 ps37 news) (hT30 : TabOk 32 4 q30 ps30 news)
    (hret : ∀ h' tk' m' ps37' ps30' rest, Fr h₀ L h' m' → News h₀ L h' ((37, tabObj ps37') :: (30, tabObj ps30') :: rest) → Q (.ret (.bool true)) { s with heap := h', toks := tk' }) :
    wpAny (model prog w) (callerA.deeper (envOfC qual75 scope75 L fa cd)) (execs rest75 (envOfC qual75 scope75 L fa cd)) Q (fun _ _ => False) s := by
  have e : some _ = some _ := Eq.trans (Eq.symm (by k_is)) hL
  clear hL
  cases e
  have hm61 := frest (x := near) (b := 61) (by decide)
  have hc0 := hbd (Int.toNat 0)
  have hc1 := hbd (Int.toNat 1)
  have hc2 := hbd (Int.toNat 2)
  have hc3 := hbd (Int.toNat 3)
  have hpb1 := bits_pow (near - near.fmod 61 + 1).toNat
  k_steps
  have hpb0 := kbt_pos (near - near.fmod 61 + 1).toNat
  have hfb := bits_pow far.toNat
  have hmb := bits_pow (near.fmod 61).toNat
  have hfac : intBits (2 ^ (near - near.fmod 61 + 1).toNat - 1) ≤ 5001 := Nat.le_trans (bits_lt (by omega) (show _ < 2 ^ (near - near.fmod 61 + 1).toNat by omega)) (by omega)
  have hA : intBits ((ns.getD (Int.toNat 0) 0 * 2 ^ far.toNat + ns.getD (Int.toNat 1) 0) * (2 ^ (near - near.fmod 61 + 1).toNat - 1)) ≤ 19999 :=
    Nat.le_trans (intBits_mul_le (intBits_add_le (intBits_mul_le hc0 hfb) hc1) hfac) (by omega)
  have hB : intBits ((ns.getD (Int.toNat 2) 0 * 2 ^ (near.fmod 61).toNat + ns.getD (Int.toNat 3) 0) * (2 ^ (near - near.fmod 61 + 1).toNat - 1)) ≤ 7000 :=
    Nat.le_trans (intBits_mul_le (intBits_add_le (intBits_mul_le hc2 hmb) hc3) hfac) (by omega)
  refine Stop.go ?_
  rename_i l9 h9a l1 h9b h9c h9d F9 N9
  have hne9 : ∀ p ∈ (D, listOf ys.toArray kD) :: news, p.1 ≠ 37 ∧ p.1 ≠ 30 := List.forall_mem_cons.mpr ⟨hD, hne⟩
  have hR9 : ∀ p ∈ (D, listOf ys.toArray kD) :: news, p.1 ≠ l9 := List.forall_mem_cons.mpr ⟨Nat.ne_of_lt l1.1, fun p hp => Nat.ne_of_lt (allLt_mem l1.2.2.2 p hp)⟩
  refine lawC (R := l9) (ps37 := ps37) (ps30 := ps30) (news := (D, listOf ys.toArray kD) :: news) (by k_is) B (by assumption) X (news_sub N9 fun p hp => ?_) T hA hB hne9 hR9 ⟨Nat.ne_of_gt l1.2.1, Nat.ne_of_gt l1.2.2.1⟩ (hT37.mono fun p hp => .tail _ hp) (hT30.mono fun p hp => .tail _ hp) hret
  simp only [List.mem_cons] at hp ⊢
  rcases hp with h | h | h | h | h <;> simp [h]
end
end Mine

namespace Mine
open Builtin.Int (intBits)
theorem cell41 (x : Int) : intBits (x.fmod (10 ^ Int.toNat 12 + 1)) ≤ 41 ∧ intBits (-(x.fmod (10 ^ Int.toNat 12 + 1))) ≤ 41 := by
  have h := frest (x := x) (b := 10 ^ Int.toNat 12 + 1) (by decide)
  have e : (10 ^ Int.toNat 12 + 1 : Int) < 2 ^ 41 := by decide
  have k : intBits (x.fmod (10 ^ Int.toNat 12 + 1)) ≤ 41 := bits_lt h.1 (by omega)
  exact ⟨k, intBits_le_of_natAbs (by omega) k⟩
theorem cellsOk {f : Int → Int} (hf : ∀ k, intBits (f k) ≤ 41) (l : List Int) (i : Nat) : intBits ((List.map f l).getD i 0) ≤ 41 := by
  rw [List.getD_eq_getElem?_getD, List.getElem?_map]
  cases l[i]? with
  | none => exact (bits_lt (by decide) (by decide) : intBits 0 ≤ 41)
  | some k => exact hf k
theorem far_bad {x : Int} (h : 2 * x.fmod 5000 + 100 = 0) : False := by
  have h5 := frest (x := x) (b := 5000) (by decide)
  omega
theorem far_ok (x y : Int) : 0 ≤ x.fmod (2 * y.fmod 5000 + 100) ∧ x.fmod (2 * y.fmod 5000 + 100) < 10100 := by
  have h5 := frest (x := y) (b := 5000) (by decide)
  have h6 := frest (x := x) (b := 2 * y.fmod 5000 + 100) (by omega)
  omega
theorem ite41 {c : Prop} [Decidable c] {a b : Int} (ha : intBits a ≤ 41) (hb : intBits b ≤ 41) : intBits (if c then a else b) ≤ 41 := by split <;> assumption
theorem sub4 {α : Type} {a b c d p : α} (h : p ∈ [a, c, d]) : p ∈ [a, b, c, d] := by
  simp only [List.mem_cons, List.not_mem_nil, or_false] at h ⊢
  rcases h with h | h | h <;> simp [h]
theorem off2 {a D : Nat} (h : a ≠ D ∧ 37 ≠ D ∧ 30 ≠ D) : D ≠ 37 ∧ D ≠ 30 := ⟨h.2.1.symm, h.2.2.symm⟩
end Mine

open Mine
open Builtin.Int (intBits)
local macro_rules | `(tactic| walk_at "execs cons") => `(tactic| (k_here; (with_reducible show wpAny _ _ (execs (PySem.Stmt.Assign [PySem.Expr.Name ("factor" : Str) _] _ _ :: _) _) _ _ _); (refine Mine.Stop.out ?_)))
theorem PySem.Challenge.cw_ko0159_01_holds : PySem.Challenge.rw_ko0159_01.Holds := by
  refine Mine.hd ?_
  k_go0
  all_goals try k_fold
  k_steps
  · exact (far_bad (by assumption)).elim
  all_goals
    refine Stop.go ?_
    rename_i F9 N9
    refine wpAny_mono (lawB (ps37 := #[]) (ps30 := #[]) (news := []) (kD := List.length ys) (by k_is) (by assumption) F9 (by assumption) (news_sub N9 fun _ h => sub4 h) (by assumption) (by assumption) rfl (cellsOk (fun k => ite41 (cell41 _).2 (ite41 (cell41 _).1 (ite41 (cell41 _).2 (cell41 _).1))) _) (frest (by decide)).1 (frest (by decide)).2 (far_ok _ _).1 (far_ok _ _).2 (off2 (by assumption)) (fun _ h => nomatch h) ⟨Or.inl rfl⟩ ⟨Or.inl rfl⟩ fun h' tk' m' p37 p30 rest F N => ?_) (fun _ _ h => h) (fun _ _ h => h.elim)
    k_steps

