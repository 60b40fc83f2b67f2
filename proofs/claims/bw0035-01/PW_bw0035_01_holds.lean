import PyProof.Rows.All
import Wide.All
import OpenK.AllK
import Wide.FinOn
import Lean
import PySem.Challenge.RW_bw0035_01
/-! The law of bw0035-01: points of a knot curve multiply like their numbers.
Parts: the ring identities; the field of n elements (n one of the ten primes); the plain law of the points; a rule for pow with three ints;
one contract a def of the text, each walked once over any caller's frame; a rule for the law's loop; the law's walk. -/
open PySem PySem.W PyProof.Rows
set_option Elab.async false
set_option maxRecDepth 100000
set_option maxHeartbeats 8000000
namespace Mine

-- part L0
open_top hd for PySem.Challenge.rw_bw0035_01

-- part Mth1
/-- an equation that omega does not look into -/
def Is (r v : Int) : Prop := r = v
section ring
variable {F : Type} [Lean.Grind.CommRing F]
theorem canc {a i x y : F} (h : a * i = 1) (e : a * x = a * y) : x = y := by
  have e1 : x = (a * i) * x := by rw [h]; grind
  have e2 : y = (a * i) * y := by rw [h]; grind
  rw [e1, e2]
  have : a * i * x = i * (a * x) := by grind
  rw [this, e]; grind
theorem canc0 {a i x : F} (h : a * i = 1) (e : a * x = 0) : x = 0 := canc h (e.trans (by grind))
/-- w belongs to u -/
theorem w_mul {m u v w1 w2 w3 i j : F} (h1 : w1 * (u - 1) = m * (u + 1)) (h2 : w2 * (v - 1) = m * (v + 1)) (h3 : w3 * (u * v - 1) = m * (u * v + 1))
    (hi : (u - 1) * i = 1) (hj : (v - 1) * j = 1) : (w1 + w2) * w3 = w1 * w2 + m * m := by
  have e1 : (u - 1) * ((v - 1) * (w1 + w2)) = 2 * m * (u * v - 1) := by
    have : (u - 1) * ((v - 1) * (w1 + w2)) = (w1 * (u - 1)) * (v - 1) + (w2 * (v - 1)) * (u - 1) := by grind
    rw [this, h1, h2]; grind
  have e2 : (u - 1) * ((v - 1) * (w1 * w2 + m * m)) = m * m * (2 * (u * v + 1)) := by
    have : (u - 1) * ((v - 1) * (w1 * w2 + m * m)) = (w1 * (u - 1)) * (w2 * (v - 1)) + m * m * ((u - 1) * (v - 1)) := by grind
    rw [this, h1, h2]; grind
  have e3 : (u - 1) * ((v - 1) * ((w1 + w2) * w3)) = (u - 1) * ((v - 1) * (w1 * w2 + m * m)) := by
    rw [e2]
    have : (u - 1) * ((v - 1) * ((w1 + w2) * w3)) = ((u - 1) * ((v - 1) * (w1 + w2))) * w3 := by grind
    rw [this, e1]
    have : 2 * m * (u * v - 1) * w3 = 2 * m * (w3 * (u * v - 1)) := by grind
    rw [this, h3]; grind
  exact canc hj (canc hi e3)
theorem add_R {w1 w2 w3 k Z : F} (hr : (w1 + w2) * w3 = w1 * w2 + 3 * k) :
    w2 * (w2^2 - 3*k) * Z^3 - w1 * (w1^2 - 3*k) * Z^3 = ((w2^2 - 2*k) * Z^2 - (w1^2 - 2*k) * Z^2) * (w1 + w2 - w3) * Z := by
  have e : ((w2^2 - 2*k) * Z^2 - (w1^2 - 2*k) * Z^2) * (w1 + w2 - w3) * Z = (w2 - w1) * Z^3 * ((w1 + w2) * (w1 + w2) - (w1 + w2) * w3) := by grind
  rw [e, hr]; grind
theorem add_x {w1 w2 w3 k Z H : F} (hr : (w1 + w2) * w3 = w1 * w2 + 3 * k) (hH : H = (w2^2 - 2*k) * Z^2 - (w1^2 - 2*k) * Z^2) :
    (H * (w1 + w2 - w3) * Z)^2 - H * (H * H) - 2 * ((w1^2 - 2*k) * Z^2 * (H * H)) = (w3^2 - 2*k) * (H * Z)^2 := by
  have e : (H * (w1 + w2 - w3) * Z)^2 - H * (H * H) - 2 * ((w1^2 - 2*k) * Z^2 * (H * H)) = (H * H) * ((w1 + w2 - w3)^2 * Z^2 - H - 2 * ((w1^2 - 2*k) * Z^2)) := by grind
  rw [e]
  have e2 : (w1 + w2 - w3)^2 * Z^2 - H - 2 * ((w1^2 - 2*k) * Z^2) = (w3^2 - 2*k) * Z^2 := by
    rw [hH]
    have : (w1 + w2 - w3)^2 = (w1 + w2)^2 - 2 * ((w1 + w2) * w3) + w3^2 := by grind
    rw [this, hr]; grind
  rw [e2]; grind
theorem add_y {w1 w2 w3 k Z H nx : F} (hr : (w1 + w2) * w3 = w1 * w2 + 3 * k) (hx : nx = (w3^2 - 2*k) * (H * Z)^2) :
    (H * (w1 + w2 - w3) * Z) * ((w1^2 - 2*k) * Z^2 * (H * H) - nx) - w1 * (w1^2 - 3*k) * Z^3 * (H * (H * H)) = w3 * (w3^2 - 3*k) * (H * Z)^3 := by
  have e : (H * (w1 + w2 - w3) * Z) * ((w1^2 - 2*k) * Z^2 * (H * H) - nx) - w1 * (w1^2 - 3*k) * Z^3 * (H * (H * H)) = (H * Z)^3 * ((w1 + w2 - w3) * (w1^2 - w3^2) - w1 * (w1^2 - 3*k)) := by
    rw [hx]; grind
  rw [e]
  have e2 : (w1 + w2 - w3) * (w1^2 - w3^2) - w1 * (w1^2 - 3*k) = w3 * (w3^2 - 3*k) + (w1 + w3) * (w1 * w2 + 3 * k - (w1 + w2) * w3) := by grind
  rw [e2, hr]; grind
theorem dbl_M {w w3 k Z : F} (hr : (w + w) * w3 = w * w + 3 * k) :
    3 * ((w^2 - 2*k) * Z^2)^2 + (-3 * k * k) * Z^4 = (2 * (w * (w^2 - 3*k) * Z^3) * Z) * (2 * w - w3) := by
  have e : (2 * (w * (w^2 - 3*k) * Z^3) * Z) * (2 * w - w3) = Z^4 * (w^2 - 3*k) * (4 * (w * w) - (w + w) * w3) := by grind
  rw [e, hr]; grind
theorem dbl_x {w w3 k Z N : F} (hr : (w + w) * w3 = w * w + 3 * k) (hN : N = 2 * (w * (w^2 - 3*k) * Z^3) * Z) :
    (N * (2 * w - w3))^2 - 2 * (4 * ((w^2 - 2*k) * Z^2) * (w * (w^2 - 3*k) * Z^3)^2) = (w3^2 - 2*k) * N^2 := by
  have e : 2 * (4 * ((w^2 - 2*k) * Z^2) * (w * (w^2 - 3*k) * Z^3)^2) = 2 * (w^2 - 2*k) * N^2 := by rw [hN]; grind
  rw [e]
  have e2 : (N * (2 * w - w3))^2 - 2 * (w^2 - 2*k) * N^2 = N^2 * (2 * (w * w) - 2 * ((w + w) * w3) + w3^2 + 4 * k) := by grind
  rw [e2, hr]; grind
theorem dbl_y {w w3 k Z N nx : F} (hr : (w + w) * w3 = w * w + 3 * k) (hN : N = 2 * (w * (w^2 - 3*k) * Z^3) * Z) (hx : nx = (w3^2 - 2*k) * N^2) :
    (N * (2 * w - w3)) * (4 * ((w^2 - 2*k) * Z^2) * (w * (w^2 - 3*k) * Z^3)^2 - nx) - 8 * ((w * (w^2 - 3*k) * Z^3)^2)^2 = w3 * (w3^2 - 3*k) * N^3 := by
  have e : 4 * ((w^2 - 2*k) * Z^2) * (w * (w^2 - 3*k) * Z^3)^2 = (w^2 - 2*k) * N^2 := by rw [hN]; grind
  have e1 : 8 * ((w * (w^2 - 3*k) * Z^3)^2)^2 = w * (w^2 - 3*k) * N^3 := by rw [hN]; grind
  rw [e, e1, hx]
  have e2 : (N * (2 * w - w3)) * ((w^2 - 2*k) * N^2 - (w3^2 - 2*k) * N^2) - w * (w^2 - 3*k) * N^3 = N^3 * ((2 * w - w3) * (w^2 - w3^2) - w * (w^2 - 3*k)) := by grind
  rw [e2]
  have e3 : (2 * w - w3) * (w^2 - w3^2) - w * (w^2 - 3*k) = w3 * (w3^2 - 3*k) + (w + w3) * (w * w + 3 * k - (w + w) * w3) := by grind
  rw [e3, hr]; grind
end ring

-- part Mth2
def primes : List Nat := [7, 11, 13, 17, 19, 23, 31, 43, 61, 97]
abbrev RR (n : Nat) := Fin (n - 1 + 1)
def ph (n : Nat) (x : Int) : RR n := (Lean.Grind.Ring.intCast (α := RR n)).intCast x
section
variable {n : Nat}
theorem ph_iff (hn : 0 < n) (a b : Int) : ph n a = ph n b ↔ a % n = b % n := by
  have h := Lean.Grind.IsCharP.intCast_ext_iff (α := RR n) (n - 1 + 1) (x := a) (y := b)
  have e : ((n - 1 + 1 : Nat) : Int) = (n : Int) := by rw [Nat.sub_add_cancel hn]
  rw [e] at h
  exact h
theorem ph_add (a b : Int) : ph n (a + b) = ph n a + ph n b := Lean.Grind.Ring.intCast_add a b
theorem ph_mul (a b : Int) : ph n (a * b) = ph n a * ph n b := Lean.Grind.Ring.intCast_mul a b
theorem ph_sub (a b : Int) : ph n (a - b) = ph n a - ph n b := Lean.Grind.Ring.intCast_sub a b
theorem ph_neg (a : Int) : ph n (-a) = - ph n a := Lean.Grind.Ring.intCast_neg a
theorem ph_pow (a : Int) (k : Nat) : ph n (a ^ k) = ph n a ^ k := Lean.Grind.Ring.intCast_pow a k
theorem ph_one : ph n 1 = 1 := Lean.Grind.Ring.intCast_one
theorem ph_zero : ph n 0 = 0 := Lean.Grind.Ring.intCast_zero
theorem ph_lit (k : Nat) : ph n (OfNat.ofNat k) = OfNat.ofNat k := Lean.Grind.Ring.intCast_ofNat k
theorem ph_2 : ph n 2 = 2 := ph_lit 2
theorem ph_3 : ph n 3 = 3 := ph_lit 3
theorem ph_4 : ph n 4 = 4 := ph_lit 4
theorem ph_8 : ph n 8 = 8 := ph_lit 8
theorem ph_self (hn : 0 < n) : ph n (n : Int) = 0 := by
  rw [← ph_zero, ph_iff hn]; simp
theorem ph_mod (hn : 0 < n) (a : Int) : ph n (a % n) = ph n a := by
  rw [ph_iff hn]; exact Int.emod_emod_of_dvd a (Int.dvd_refl _)
theorem ph_is (hn : 0 < n) {r a : Int} (h : Is r (a % n)) : ph n r = ph n a := by rw [h]; exact ph_mod hn a
theorem ph_eq (hn : 0 < n) {a b : Int} (h : ph n a = ph n b) (ha : 0 ≤ a) (ha' : a < n) (hb : 0 ≤ b) (hb' : b < n) : a = b := by
  have := (ph_iff hn a b).mp h
  rwa [Int.emod_eq_of_lt ha ha', Int.emod_eq_of_lt hb hb'] at this
theorem ph_val (hn : 0 < n) (a : RR n) : ∃ x : Int, 0 ≤ x ∧ x < n ∧ ph n x = a := by
  refine ⟨(a.val : Int), by omega, by have := a.isLt; omega, ?_⟩
  show (Lean.Grind.Ring.intCast (α := RR n)).intCast ((a.val : Nat) : Int) = a
  have := Lean.Grind.Ring.intCast_natCast (α := RR n) a.val
  refine Eq.trans this ?_
  apply Fin.ext
  show a.val % (n - 1 + 1) = a.val
  exact Nat.mod_eq_of_lt a.isLt
end
def iv (n : Nat) (a : Int) : Int := ((Builtin.powMod (a % n).toNat (n - 2) n : Nat) : Int)
def ivOk (n : Nat) : Bool := (List.range n).all fun b => b == 0 || (Builtin.powMod b (n - 2) n < n && (b * Builtin.powMod b (n - 2) n) % n == 1)
theorem iv_tab : primes.all ivOk = true := by decide +kernel
theorem iv_ok {n : Nat} (hn : n ∈ primes) (a : Int) (h : a % n ≠ 0) : (a * iv n a) % n = 1 ∧ 0 ≤ iv n a ∧ iv n a < n := by
  have h1 := List.all_eq_true.mp iv_tab n hn
  unfold ivOk at h1
  have h0 : 0 < n := by rcases Nat.eq_zero_or_pos n with h0 | h0; · subst h0; exact absurd hn (by decide)
                        · exact h0
  have a0 := Int.emod_nonneg a (b := (n : Int)) (by omega)
  have a1 := Int.emod_lt_of_pos a (b := (n : Int)) (by omega)
  have h2 := List.all_eq_true.mp h1 (a % n).toNat (List.mem_range.mpr (by omega))
  simp only [Bool.or_eq_true, Bool.and_eq_true, beq_iff_eq, decide_eq_true_eq] at h2
  have h3 := h2.resolve_left (by omega)
  refine ⟨?_, by unfold iv; omega, by unfold iv; omega⟩
  have e : (((a % n).toNat : Nat) : Int) = a % n := Int.toNat_of_nonneg a0
  have h4 : ((((a % n).toNat * Builtin.powMod (a % n).toNat (n - 2) n : Nat) : Int)) % n = 1 := by
    have := congrArg (Nat.cast (R := Int)) h3.2
    simpa using this
  rw [Int.natCast_mul, e] at h4
  rw [Int.mul_emod, ← Int.emod_emod_of_dvd a (Int.dvd_refl _), ← Int.mul_emod]
  exact h4
theorem pr_pos {n : Nat} (hn : n ∈ primes) : 7 ≤ n ∧ n ≤ 97 := by
  simp only [primes, List.mem_cons, List.not_mem_nil, or_false] at hn
  omega
section
variable {n : Nat}
theorem ph_ne (hn : n ∈ primes) {a : Int} (h0 : 0 < a) (h1 : a < n) : ph n a ≠ 0 := by
  rw [← ph_zero]
  intro e
  have := ph_eq (by have := pr_pos hn; omega) e (by omega) h1 (by omega) (by have := pr_pos hn; omega)
  omega
theorem ph_iv (hn : n ∈ primes) {a : Int} (h : ph n a ≠ 0) : ph n a * ph n (iv n a) = 1 := by
  have hp := pr_pos hn
  rw [← ph_mul, ← ph_one, ph_iff (by omega), (iv_ok hn a ?_).1]
  · rw [Int.emod_eq_of_lt] <;> omega
  · intro e
    apply h
    rw [← ph_zero, ph_iff (by omega), e]; simp
theorem fld (hn : n ∈ primes) {a : RR n} (h : a ≠ 0) : ∃ i : RR n, a * i = 1 := by
  obtain ⟨x, _, _, rfl⟩ := ph_val (by have := pr_pos hn; omega) a
  exact ⟨_, ph_iv hn h⟩
theorem nzd (hn : n ∈ primes) {a b : RR n} (h : a * b = 0) : a = 0 ∨ b = 0 := by
  by_cases ha : a = 0
  · exact .inl ha
  · obtain ⟨i, hi⟩ := fld hn ha
    exact .inr (canc0 hi h)
theorem nz_mul (hn : n ∈ primes) {a b : RR n} (ha : a ≠ 0) (hb : b ≠ 0) : a * b ≠ 0 := fun e => (nzd hn e).elim ha hb
theorem two_ne (hn : n ∈ primes) : (2 : RR n) ≠ 0 := by rw [← ph_2]; exact ph_ne hn (by omega) (by have := pr_pos hn; omega)
theorem three_ne (hn : n ∈ primes) : (3 : RR n) ≠ 0 := by rw [← ph_3]; exact ph_ne hn (by omega) (by have := pr_pos hn; omega)
end

-- part Mth3
section
variable {n : Nat}
/-- w belongs to the number u -/
def Wn (n : Nat) (m u : Int) (w k : RR n) : Prop := w * (ph n u - 1) = ph n m * (ph n u + 1) ∧ 3 * k = ph n m * ph n m
structure Rep (n : Nat) (m u x y z : Int) : Prop where
  ex : ∃ w k : RR n, Wn n m u w k ∧ ph n x = (w^2 - 2*k) * (ph n z)^2 ∧ ph n y = w * (w^2 - 3*k) * (ph n z)^3
  hz : ph n z ≠ 0
  h1 : ph n u ≠ 1
theorem sub_ne {a b : RR n} (h : a ≠ b) : a - b ≠ 0 := by
  intro e; apply h
  have : a = (a - b) + b := by grind
  rw [this, e]; grind
theorem ne_sub {a b : RR n} (h : a - b = 0) : a = b := by
  have : a = (a - b) + b := by grind
  rw [this, h]; grind
theorem pr0 (hn : n ∈ primes) : 0 < n := by have := pr_pos hn; omega

theorem w_ne_m (hn : n ∈ primes) {m u : Int} {w k : RR n} (hm : ph n m ≠ 0) (h : Wn n m u w k) : w - ph n m ≠ 0 := by
  intro e
  have e := ne_sub e
  have h1 := h.1
  rw [e] at h1
  have : (2 : RR n) * ph n m = 0 := by
    have : (2 : RR n) * ph n m = ph n m * (ph n u + 1) - ph n m * (ph n u - 1) := by grind
    rw [this, h1]; grind
  rcases nzd hn this with h2 | h2
  · exact two_ne hn h2
  · exact hm h2
theorem w_ne_m' (hn : n ∈ primes) {m u : Int} {w k : RR n} (hm : ph n m ≠ 0) (hu : ph n u ≠ 0) (h : Wn n m u w k) : w + ph n m ≠ 0 := by
  intro e
  have h1 := h.1
  have : (2 : RR n) * (ph n m * ph n u) = 0 := by
    have : (2 : RR n) * (ph n m * ph n u) = ph n m * (ph n u + 1) - w * (ph n u - 1) + (w + ph n m) * (ph n u - 1) := by grind
    rw [this, h1, e]; grind
  rcases nzd hn this with h2 | h2
  · exact two_ne hn h2
  · exact nz_mul hn hm hu h2
theorem w_ne0 (hn : n ∈ primes) {m u : Int} {w k : RR n} (hm : ph n m ≠ 0) (hu : ph n u ≠ -1) (h : Wn n m u w k) : w ≠ 0 := by
  intro e
  have h1 := h.1
  rw [e] at h1
  have : ph n m * (ph n u + 1) = 0 := by rw [← h1]; grind
  rcases nzd hn this with h2 | h2
  · exact hm h2
  · apply hu
    have : ph n u = (ph n u + 1) - 1 := by grind
    rw [this, h2]; grind
theorem w_sq (hn : n ∈ primes) {m u : Int} {w k : RR n} (hm : ph n m ≠ 0) (hu : ph n u ≠ 0) (h : Wn n m u w k) : w^2 - 3*k ≠ 0 := by
  have : w^2 - 3*k = (w - ph n m) * (w + ph n m) := by rw [h.2]; grind
  rw [this]
  exact nz_mul hn (w_ne_m hn hm h) (w_ne_m' hn hm hu h)
theorem y_ne (hn : n ∈ primes) {m u x y z : Int} (hm : ph n m ≠ 0) (hu : ph n u ≠ 0) (hu' : ph n u ≠ -1) (h : Rep n m u x y z) : ph n y ≠ 0 := by
  obtain ⟨w, k, hw, _, e⟩ := h.ex
  rw [e]
  have hz := h.hz
  have : (ph n z)^3 ≠ 0 := by
    have : (ph n z)^3 = ph n z * (ph n z * ph n z) := by grind
    rw [this]; exact nz_mul hn hz (nz_mul hn hz hz)
  exact nz_mul hn (nz_mul hn (w_ne0 hn hm hu' hw) (w_sq hn hm hu hw)) this
/-- a given u other than 1 has a w, and w of the program's own make -/
theorem w_ex (hn : n ∈ primes) (m : Int) {u : Int} (hu : ph n u ≠ 1) : ∃ w : RR n, w * (ph n u - 1) = ph n m * (ph n u + 1) := by
  obtain ⟨i, hi⟩ := fld hn (sub_ne hu)
  refine ⟨ph n m * (ph n u + 1) * i, ?_⟩
  have : ph n m * (ph n u + 1) * i * (ph n u - 1) = ph n m * (ph n u + 1) * ((ph n u - 1) * i) := by grind
  rw [this, hi]; grind
theorem k_uniq (hn : n ∈ primes) {m u v : Int} {w k w' k' : RR n} (h : Wn n m u w k) (h' : Wn n m v w' k') : k = k' := by
  obtain ⟨i, hi⟩ := fld hn (three_ne hn)
  exact canc hi (h.2.trans h'.2.symm)
theorem w_uniq (hn : n ∈ primes) {m u : Int} {w k w' k' : RR n} (hu : ph n u ≠ 1) (h : Wn n m u w k) (h' : Wn n m u w' k') : w = w' := by
  obtain ⟨i, hi⟩ := fld hn (sub_ne hu)
  refine canc hi ?_
  have e1 : (ph n u - 1) * w = w * (ph n u - 1) := by grind
  have e2 : (ph n u - 1) * w' = w' * (ph n u - 1) := by grind
  rw [e1, e2, h.1, h'.1]
theorem u_of_w (hn : n ∈ primes) {m u v : Int} {w k k' : RR n} (hm : ph n m ≠ 0) (h : Wn n m u w k) (h' : Wn n m v w k') : ph n u = ph n v := by
  obtain ⟨i, hi⟩ := fld hn (w_ne_m hn hm h)
  refine canc hi ?_
  have h1 := h.1
  have h2 := h'.1
  have e1 : (w - ph n m) * ph n u = w * (ph n u - 1) - ph n m * (ph n u + 1) + w + ph n m := by grind
  have e2 : (w - ph n m) * ph n v = w * (ph n v - 1) - ph n m * (ph n v + 1) + w + ph n m := by grind
  rw [e1, e2, h1, h2]; grind
theorem uv_of_w (hn : n ∈ primes) {m u v : Int} {w w' k k' : RR n} (hm : ph n m ≠ 0) (h : Wn n m u w k) (h' : Wn n m v w' k') : w + w' = 0 → ph n u * ph n v = 1 := by
  intro e
  have h1 := h.1
  have h2 := h'.1
  have e1 : (2 : RR n) * (ph n m * (ph n u * ph n v - 1)) = (ph n u - 1) * ((ph n v - 1) * (w + w')) := by
    have : (ph n u - 1) * ((ph n v - 1) * (w + w')) = (w * (ph n u - 1)) * (ph n v - 1) + (w' * (ph n v - 1)) * (ph n u - 1) := by grind
    rw [this, h1, h2]; grind
  rw [e] at e1
  have e1 : (2 : RR n) * (ph n m * (ph n u * ph n v - 1)) = 0 := by rw [e1]; grind
  rcases nzd hn e1 with h3 | h3
  · exact absurd h3 (two_ne hn)
  rcases nzd hn h3 with h3 | h3
  · exact absurd h3 hm
  · exact ne_sub h3
theorem w_of_uv (hn : n ∈ primes) {m u v : Int} {w w' k k' : RR n} (hu : ph n u ≠ 1) (hv : ph n v ≠ 1) (h : Wn n m u w k) (h' : Wn n m v w' k') (e : ph n u * ph n v = 1) : w + w' = 0 := by
  have h1 := h.1
  have h2 := h'.1
  obtain ⟨i, hi⟩ := fld hn (sub_ne hu)
  obtain ⟨j, hj⟩ := fld hn (sub_ne hv)
  refine canc0 hj (canc0 hi ?_)
  have : (ph n u - 1) * ((ph n v - 1) * (w + w')) = (w * (ph n u - 1)) * (ph n v - 1) + (w' * (ph n v - 1)) * (ph n u - 1) := by grind
  rw [this, h1, h2]
  have : ph n m * (ph n u + 1) * (ph n v - 1) + ph n m * (ph n v + 1) * (ph n u - 1) = 2 * ph n m * (ph n u * ph n v - 1) := by grind
  rw [this, e]; grind

/-- the numbers of two summands and of their sum -/
theorem w_sum (hn : n ∈ primes) {m u v t : Int} {w1 w2 w3 k k2 : RR n} (hu : ph n u ≠ 1) (hv : ph n v ≠ 1) (ht : ph n t = ph n u * ph n v)
    (h1 : Wn n m u w1 k) (h2 : Wn n m v w2 k2) (h3 : w3 * (ph n t - 1) = ph n m * (ph n t + 1)) : (w1 + w2) * w3 = w1 * w2 + 3 * k := by
  obtain ⟨i, hi⟩ := fld hn (sub_ne hu)
  obtain ⟨j, hj⟩ := fld hn (sub_ne hv)
  rw [h1.2]
  rw [ht] at h3
  exact w_mul h1.1 h2.1 h3 hi hj
end

-- part Mth4
section
variable {n : Nat}
/-- the curve's a -/
def Cv (n : Nat) (m A : Int) : Prop := ∃ k : RR n, 3 * k = ph n m * ph n m ∧ ph n A = -3 * k * k
theorem uu_ne1 (hn : n ∈ primes) {a : RR n} (h1 : a ≠ 1) (h2 : a ≠ -1) : a * a ≠ 1 := by
  intro e
  have : (a - 1) * (a + 1) = 0 := by
    have : (a - 1) * (a + 1) = a * a - 1 := by grind
    rw [this, e]; grind
  rcases nzd hn this with h | h
  · exact h1 (ne_sub h)
  · apply h2
    have : a = (a + 1) - 1 := by grind
    rw [this, h]; grind
theorem T_dbl (hn : n ∈ primes) {m u t x y z A ysq S M nx ny nz : Int} (hm : ph n m ≠ 0) (hu0 : ph n u ≠ 0) (hu1 : ph n u ≠ -1) (r : Rep n m u x y z) (hA : Cv n m A)
    (e1 : Is ysq (y^2 % n)) (e2 : Is S (4*x*ysq % n)) (e3 : Is M ((3*x^2 + A*z^4) % n)) (e4 : Is nx ((M^2 - 2*S) % n)) (e5 : Is ny ((M*(S-nx) - 8*ysq^2) % n)) (e6 : Is nz (2*y*z % n))
    (ht : ph n t = ph n u * ph n u) : Rep n m t nx ny nz := by
  have h0 := pr0 hn
  obtain ⟨w, k, hw, hx, hy⟩ := r.ex
  obtain ⟨k', hk', hA⟩ := hA
  obtain ⟨i3, hi3⟩ := fld hn (three_ne hn)
  obtain rfl : k' = k := canc hi3 (hk'.trans hw.2.symm)
  have ht1 : ph n t ≠ 1 := by rw [ht]; exact uu_ne1 hn r.h1 hu1
  obtain ⟨w3, h3⟩ := w_ex hn m ht1
  have hr := w_sum hn r.h1 r.h1 ht hw hw h3
  have e1 := ph_is h0 e1
  have e2 := ph_is h0 e2
  have e3 := ph_is h0 e3
  have e4 := ph_is h0 e4
  have e5 := ph_is h0 e5
  have e6 := ph_is h0 e6
  simp only [ph_add, ph_sub, ph_mul, ph_pow, ph_2, ph_3, ph_4, ph_8] at e1 e2 e3 e4 e5 e6
  rw [hx, hA] at e3
  rw [hy] at e1 e6
  rw [hx, e1] at e2
  rw [dbl_M hr, ← e6] at e3
  rw [e3, e2, dbl_x hr e6] at e4
  rw [e3, e2, e1, dbl_y hr e6 e4] at e5
  refine ⟨⟨w3, k', ⟨h3, hk'⟩, e4, e5⟩, ?_, ht1⟩
  have hyn := y_ne hn hm hu0 hu1 r
  rw [hy] at hyn
  rw [e6]
  exact nz_mul hn (nz_mul hn (two_ne hn) hyn) r.hz

/-- both summands read over the common scale -/
theorem T_com (hn : n ∈ primes) {m u v x1 y1 z1 x2 y2 z2 U1 U2 S1 S2 : Int} (r1 : Rep n m u x1 y1 z1) (r2 : Rep n m v x2 y2 z2)
    (e1 : Is U1 (x1 * z2^2 % n)) (e2 : Is U2 (x2 * z1^2 % n)) (e3 : Is S1 (y1 * z2^3 % n)) (e4 : Is S2 (y2 * z1^3 % n)) :
    ∃ w1 w2 k Z : RR n, Wn n m u w1 k ∧ Wn n m v w2 k ∧ Z ≠ 0 ∧ Z = ph n z1 * ph n z2 ∧ ph n U1 = (w1^2 - 2*k)*Z^2 ∧ ph n U2 = (w2^2 - 2*k)*Z^2 ∧
      ph n S1 = w1 * (w1^2 - 3*k) * Z^3 ∧ ph n S2 = w2 * (w2^2 - 3*k) * Z^3 := by
  have h0 := pr0 hn
  obtain ⟨w1, k, hw1, hx1, hy1⟩ := r1.ex
  obtain ⟨w2, k2, hw2, hx2, hy2⟩ := r2.ex
  obtain rfl := k_uniq hn hw1 hw2
  have e1 := ph_is h0 e1
  have e2 := ph_is h0 e2
  have e3 := ph_is h0 e3
  have e4 := ph_is h0 e4
  simp only [ph_mul, ph_pow] at e1 e2 e3 e4
  refine ⟨w1, w2, k, ph n z1 * ph n z2, hw1, hw2, nz_mul hn r1.hz r2.hz, rfl, ?_, ?_, ?_, ?_⟩
  · rw [e1, hx1]; grind
  · rw [e2, hx2]; grind
  · rw [e3, hy1]; grind
  · rw [e4, hy2]; grind
theorem sq_ne (hn : n ∈ primes) {Z : RR n} (h : Z ≠ 0) : Z^2 ≠ 0 := by
  have : Z^2 = Z * Z := by grind
  rw [this]; exact nz_mul hn h h
theorem cu_ne (hn : n ∈ primes) {Z : RR n} (h : Z ≠ 0) : Z^3 ≠ 0 := by
  have : Z^3 = Z * (Z * Z) := by grind
  rw [this]; exact nz_mul hn h (nz_mul hn h h)
/-- the same x: one number is the other's, or its inverse -/
theorem T_eqU (hn : n ∈ primes) {U1 U2 : Int} {w1 w2 k Z : RR n} (hZ : Z ≠ 0) (a1 : ph n U1 = (w1^2 - 2*k)*Z^2) (a2 : ph n U2 = (w2^2 - 2*k)*Z^2) (e : U1 = U2) : w1 = w2 ∨ w1 + w2 = 0 := by
  subst e
  obtain ⟨i, hi⟩ := fld hn (sq_ne hn hZ)
  have h : Z^2 * ((w1 - w2) * (w1 + w2)) = 0 := by
    have : Z^2 * ((w1 - w2) * (w1 + w2)) = (w1^2 - 2*k)*Z^2 - (w2^2 - 2*k)*Z^2 := by grind
    rw [this, ← a1, ← a2]; grind
  rcases nzd hn (canc0 hi h) with h | h
  · exact .inl (ne_sub h)
  · exact .inr h
theorem T_opp (hn : n ∈ primes) {m u v x1 y1 z1 x2 y2 z2 U1 U2 S1 S2 : Int} (hm : ph n m ≠ 0) (r1 : Rep n m u x1 y1 z1) (r2 : Rep n m v x2 y2 z2)
    (e1 : Is U1 (x1 * z2^2 % n)) (e2 : Is U2 (x2 * z1^2 % n)) (e3 : Is S1 (y1 * z2^3 % n)) (e4 : Is S2 (y2 * z1^3 % n)) (e : U1 = U2) (ne : S1 ≠ S2) : ph n u * ph n v = 1 := by
  have h0 := pr0 hn
  obtain ⟨w1, w2, k, Z, hw1, hw2, hZ, _, a1, a2, a3, a4⟩ := T_com hn r1 r2 e1 e2 e3 e4
  rcases T_eqU hn hZ a1 a2 e with h | h
  · exfalso
    subst h
    apply ne
    refine ph_eq h0 (a3.trans a4.symm) ?_ ?_ ?_ ?_
    · rw [e3]; exact Int.emod_nonneg _ (by omega)
    · rw [e3]; exact Int.emod_lt_of_pos _ (by omega)
    · rw [e4]; exact Int.emod_nonneg _ (by omega)
    · rw [e4]; exact Int.emod_lt_of_pos _ (by omega)
  · exact uv_of_w hn hm hw1 hw2 h
theorem T_same (hn : n ∈ primes) {m u v x1 y1 z1 x2 y2 z2 U1 U2 S1 S2 : Int} (hm : ph n m ≠ 0) (hu0 : ph n u ≠ 0) (hu1 : ph n u ≠ -1) (r1 : Rep n m u x1 y1 z1) (r2 : Rep n m v x2 y2 z2)
    (e1 : Is U1 (x1 * z2^2 % n)) (e2 : Is U2 (x2 * z1^2 % n)) (e3 : Is S1 (y1 * z2^3 % n)) (e4 : Is S2 (y2 * z1^3 % n)) (e : U1 = U2) (ee : S1 = S2) : ph n u = ph n v := by
  have h0 := pr0 hn
  obtain ⟨w1, w2, k, Z, hw1, hw2, hZ, _, a1, a2, a3, a4⟩ := T_com hn r1 r2 e1 e2 e3 e4
  rcases T_eqU hn hZ a1 a2 e with h | h
  · subst h; exact u_of_w hn hm hw1 hw2
  · exfalso
    have hw : w2 = -w1 := by
      have : w2 = (w1 + w2) - w1 := by grind
      rw [this, h]; grind
    subst ee
    rw [hw] at a4
    have b : (2 : RR n) * (w1 * (w1^2 - 3*k) * Z^3) = 0 := by
      have : (2 : RR n) * (w1 * (w1^2 - 3*k) * Z^3) = w1 * (w1^2 - 3*k) * Z^3 - (-w1) * ((-w1)^2 - 3*k) * Z^3 := by grind
      rw [this, ← a3, ← a4]; grind
    exact nz_mul hn (two_ne hn) (nz_mul hn (nz_mul hn (w_ne0 hn hm hu1 hw1) (w_sq hn hm hu0 hw1)) (cu_ne hn hZ)) b
theorem T_add (hn : n ∈ primes) {m u v t x1 y1 z1 x2 y2 z2 U1 U2 S1 S2 H2 H3 UH nx ny nz : Int} (r1 : Rep n m u x1 y1 z1) (r2 : Rep n m v x2 y2 z2)
    (e1 : Is U1 (x1 * z2^2 % n)) (e2 : Is U2 (x2 * z1^2 % n)) (e3 : Is S1 (y1 * z2^3 % n)) (e4 : Is S2 (y2 * z1^3 % n)) (ne : U1 ≠ U2)
    (e5 : Is H2 ((U2 - U1) * (U2 - U1) % n)) (e6 : Is H3 ((U2 - U1) * H2 % n)) (e7 : Is UH (U1 * H2 % n)) (e8 : Is nx (((S2 - S1)^2 - H3 - 2 * UH) % n))
    (e9 : Is ny (((S2 - S1) * (UH - nx) - S1 * H3) % n)) (e10 : Is nz ((U2 - U1) * z1 * z2 % n)) (ht : ph n t = ph n u * ph n v) : Rep n m t nx ny nz := by
  have h0 := pr0 hn
  obtain ⟨w1, w2, k, Z, hw1, hw2, hZ, hZe, a1, a2, a3, a4⟩ := T_com hn r1 r2 e1 e2 e3 e4
  have hne : ph n U1 ≠ ph n U2 := by
    intro q; apply ne
    refine ph_eq h0 q ?_ ?_ ?_ ?_
    · rw [e1]; exact Int.emod_nonneg _ (by omega)
    · rw [e1]; exact Int.emod_lt_of_pos _ (by omega)
    · rw [e2]; exact Int.emod_nonneg _ (by omega)
    · rw [e2]; exact Int.emod_lt_of_pos _ (by omega)
  have ht1 : ph n t ≠ 1 := by
    rw [ht]; intro q
    have q := w_of_uv hn r1.h1 r2.h1 hw1 hw2 q
    have hw : w2 = -w1 := by
      have : w2 = (w1 + w2) - w1 := by grind
      rw [this, q]; grind
    apply hne
    rw [a1, a2, hw]; grind
  obtain ⟨w3, h3⟩ := w_ex hn m ht1
  have hr := w_sum hn r1.h1 r2.h1 ht hw1 hw2 h3
  have e5 := ph_is h0 e5
  have e6 := ph_is h0 e6
  have e7 := ph_is h0 e7
  have e8 := ph_is h0 e8
  have e9 := ph_is h0 e9
  have e10 := ph_is h0 e10
  simp only [ph_sub, ph_mul, ph_pow, ph_2] at e5 e6 e7 e8 e9 e10
  have hR : ph n S2 - ph n S1 = (ph n U2 - ph n U1) * (w1 + w2 - w3) * Z := by rw [a1, a2, a3, a4]; exact add_R hr
  have hz : ph n nz = (ph n U2 - ph n U1) * Z := by rw [e10, hZe]; grind
  have hH : ph n U2 - ph n U1 = (w2^2 - 2*k) * Z^2 - (w1^2 - 2*k) * Z^2 := by rw [a1, a2]
  have hx : ph n nx = (w3^2 - 2*k) * (ph n nz)^2 := by
    rw [e8, e6, e7, e5, hR, hz]
    have := add_x hr hH
    rw [← a1] at this
    exact this
  have hy : ph n ny = w3 * (w3^2 - 3*k) * (ph n nz)^3 := by
    rw [e9, e6, e7, e5, hR, a3, hz]
    rw [hz] at hx
    have := add_y hr hx
    rw [← a1] at this
    exact this
  refine ⟨⟨w3, k, ⟨h3, hw1.2⟩, hx, hy⟩, ?_, ht1⟩
  rw [hz]
  exact nz_mul hn (fun q => hne (ne_sub q).symm) hZ
end

-- part Mth5
def kk (n : Nat) (m : Int) : Int := m * m * iv n 3 % n
def ww (n : Nat) (m u : Int) : Int := m * (u + 1) * iv n (u - 1) % n
def qx (n : Nat) (m u : Int) : Int := if u = 1 then 0 else (ww n m u * ww n m u - 2 * kk n m) % n
def qy (n : Nat) (m u : Int) : Int := if u = 1 then 0 else ww n m u * (qx n m u - kk n m) % n
def RepJ (n : Nat) (m u x y z : Int) : Prop := (ph n u = 1 ∧ x = 0 ∧ y = 0 ∧ z = 1) ∨ Rep n m u x y z
section
variable {n : Nat}
theorem kk_ok (hn : n ∈ primes) (m : Int) : 3 * ph n (kk n m) = ph n m * ph n m := by
  have h3 := ph_iv hn (a := 3) (by rw [ph_3]; exact three_ne hn)
  unfold kk
  rw [ph_mod (pr0 hn), ph_mul, ph_mul]
  rw [ph_3] at h3
  have : (3 : RR n) * (ph n m * ph n m * ph n (iv n 3)) = ph n m * ph n m * (3 * ph n (iv n 3)) := by grind
  rw [this, h3]; grind
theorem rng (hn : n ∈ primes) (a : Int) : 0 ≤ a % n ∧ a % n < n := by
  have := pr0 hn
  exact ⟨Int.emod_nonneg _ (by omega), Int.emod_lt_of_pos _ (by omega)⟩
theorem kk_rng (hn : n ∈ primes) (m : Int) : 0 ≤ kk n m ∧ kk n m < n := rng hn _
theorem ww_rng (hn : n ∈ primes) (m u : Int) : 0 ≤ ww n m u ∧ ww n m u < n := rng hn _
theorem qx_rng (hn : n ∈ primes) (m u : Int) : 0 ≤ qx n m u ∧ qx n m u < n := by
  unfold qx; split
  · have := pr0 hn; omega
  · exact rng hn _
theorem qy_rng (hn : n ∈ primes) (m u : Int) : 0 ≤ qy n m u ∧ qy n m u < n := by
  unfold qy; split
  · have := pr0 hn; omega
  · exact rng hn _
theorem Cv_ok (hn : n ∈ primes) {m A : Int} (h : Is A (-3 * kk n m * kk n m % n)) : Cv n m A := by
  refine ⟨ph n (kk n m), kk_ok hn m, ?_⟩
  have := ph_is (pr0 hn) h
  rw [this, ph_mul, ph_mul, ph_neg, ph_3]
theorem u_ne1 (hn : n ∈ primes) {u : Int} (h0 : 0 ≤ u) (h1 : u < n) (h : u ≠ 1) : ph n u ≠ 1 := by
  have := pr_pos hn
  intro e; rw [← ph_one] at e
  exact h (ph_eq (by omega) e h0 h1 (by omega) (by omega))
theorem u_ne0 (hn : n ∈ primes) {u : Int} (h0 : 0 < u) (h1 : u < n) : ph n u ≠ 0 := ph_ne hn h0 h1
theorem u_neM (hn : n ∈ primes) {u : Int} (h0 : 0 ≤ u) (h1 : u < n) (h : u ≠ (n : Int) - 1) : ph n u ≠ -1 := by
  have := pr_pos hn
  intro e
  have e1 : ph n u = ph n ((n : Int) - 1) := by
    rw [e, ph_sub, ph_self (by omega), ph_one]; grind
  exact h (ph_eq (by omega) e1 h0 h1 (by omega) (by omega))
theorem ww_ok (hn : n ∈ primes) (m : Int) {u : Int} (hu : ph n u ≠ 1) : Wn n m u (ph n (ww n m u)) (ph n (kk n m)) := by
  refine ⟨?_, kk_ok hn m⟩
  have hi := ph_iv hn (a := u - 1) (by rw [ph_sub, ph_one]; exact sub_ne hu)
  unfold ww
  rw [ph_mod (pr0 hn), ph_mul, ph_mul, ph_add, ph_one]
  rw [ph_sub, ph_one] at hi
  have : ph n m * (ph n u + 1) * ph n (iv n (u - 1)) * (ph n u - 1) = ph n m * (ph n u + 1) * ((ph n u - 1) * ph n (iv n (u - 1))) := by grind
  rw [this, hi]; grind
theorem ph_qx (hn : n ∈ primes) (m : Int) {u : Int} (hu : ph n u ≠ 1) : ph n (qx n m u) = (ph n (ww n m u))^2 - 2 * ph n (kk n m) := by
  unfold qx
  rw [if_neg (fun e => hu (by rw [e]; exact ph_one)), ph_mod (pr0 hn), ph_sub, ph_mul, ph_mul, ph_2]; grind
theorem ph_qy (hn : n ∈ primes) (m : Int) {u : Int} (hu : ph n u ≠ 1) : ph n (qy n m u) = ph n (ww n m u) * ((ph n (ww n m u))^2 - 3 * ph n (kk n m)) := by
  unfold qy
  rw [if_neg (fun e => hu (by rw [e]; exact ph_one)), ph_mod (pr0 hn), ph_mul, ph_sub, ph_qx hn m hu]; grind
theorem rep_scaled (hn : n ∈ primes) (m : Int) {u X Y z : Int} (hu : ph n u ≠ 1) (hz : ph n z ≠ 0) (hX : Is X (qx n m u * z * z % n)) (hY : Is Y (qy n m u * z * z * z % n)) : Rep n m u X Y z := by
  refine ⟨⟨_, _, ww_ok hn m hu, ?_, ?_⟩, hz, hu⟩
  · rw [ph_is (pr0 hn) hX, ph_mul, ph_mul, ph_qx hn m hu]; grind
  · rw [ph_is (pr0 hn) hY, ph_mul, ph_mul, ph_mul, ph_qy hn m hu]; grind
theorem rep_pt (hn : n ∈ primes) (m : Int) {u : Int} (hu : ph n u ≠ 1) : Rep n m u (qx n m u) (qy n m u) 1 := by
  refine ⟨⟨_, _, ww_ok hn m hu, ?_, ?_⟩, ?_, hu⟩
  · rw [ph_qx hn m hu, ph_one]; grind
  · rw [ph_qy hn m hu, ph_one]; grind
  · exact ph_ne hn (by omega) (by have := pr_pos hn; omega)
theorem pt_of_rep (hn : n ∈ primes) {m u x y z i : Int} (h0 : 0 ≤ u) (h1 : u < n) (r : RepJ n m u x y z) (hi : (z * i) % n = 1) :
    x * i^2 % n = qx n m u ∧ y * i^3 % n = qy n m u := by
  have hp := pr_pos hn
  have hi' : ph n z * ph n i = 1 := by
    rw [← ph_mul, ← ph_one, ph_iff (by omega), hi]; rw [Int.emod_eq_of_lt] <;> omega
  rcases r with ⟨e, rfl, rfl, rfl⟩ | r
  · have : u = 1 := by
      rw [← ph_one] at e
      exact ph_eq (by omega) e h0 h1 (by omega) (by omega)
    subst this
    simp [qx, qy]
  · obtain ⟨w, k, hw, hx, hy⟩ := r.ex
    have hw' := ww_ok hn m r.h1
    obtain rfl := k_uniq hn hw hw'
    obtain rfl := w_uniq hn r.h1 hw hw'
    constructor
    · refine ph_eq (by omega) ?_ (rng hn _).1 (rng hn _).2 (qx_rng hn m u).1 (qx_rng hn m u).2
      rw [ph_mod (by omega), ph_mul, ph_pow, hx, ph_qx hn m r.h1]
      have : ∀ c : RR n, c * (ph n z)^2 * (ph n i)^2 = c * (ph n z * ph n i) * (ph n z * ph n i) := by intro c; grind
      rw [this, hi']; grind
    · refine ph_eq (by omega) ?_ (rng hn _).1 (rng hn _).2 (qy_rng hn m u).1 (qy_rng hn m u).2
      rw [ph_mod (by omega), ph_mul, ph_pow, hy, ph_qy hn m r.h1]
      have : ∀ c : RR n, c * (ph n z)^3 * (ph n i)^3 = c * (ph n z * ph n i) * (ph n z * ph n i) * (ph n z * ph n i) := by intro c; grind
      rw [this, hi']; grind
theorem qy_ne (hn : n ∈ primes) {m u : Int} (hm0 : 0 < m) (hm1 : m < n) (h0 : 2 ≤ u) (h1 : u ≤ (n : Int) - 2) : 0 < qy n m u := by
  have hu1 := u_ne1 hn (u := u) (by omega) (by omega) (by omega)
  have := y_ne hn (ph_ne hn hm0 hm1) (u_ne0 hn (u := u) (by omega) (by omega)) (u_neM hn (by omega) (by omega) (by omega)) (rep_pt hn m hu1)
  have h2 := qy_rng hn m u
  have : qy n m u ≠ 0 := fun e => this (by rw [e]; exact ph_zero)
  omega
theorem ww_M (hn : n ∈ primes) (m : Int) : ph n (ww n m ((n : Int) - 1)) = 0 := by
  unfold ww
  rw [ph_mod (pr0 hn), ph_mul, ph_mul]
  have : ph n ((n : Int) - 1 + 1) = 0 := by rw [show (n : Int) - 1 + 1 = n by omega, ph_self (pr0 hn)]
  rw [this]; grind
/-- y = 0 only at infinity and at u = -1 -/
theorem qy_zero (hn : n ∈ primes) (m : Int) : qy n m ((n : Int) - 1) = 0 := by
  have hp := pr_pos hn
  refine ph_eq (by omega) ?_ (qy_rng hn m _).1 (qy_rng hn m _).2 (by omega) (by omega)
  rw [ph_qy hn m (u_ne1 hn (by omega) (by omega) (by omega)), ww_M hn m, ph_zero]; grind
theorem number (hn : n ∈ primes) {m u w : Int} (hm0 : 0 < m) (hm1 : m < n) (h0 : 2 ≤ u) (h1 : u < n) (hw : Is w (qy n m u * iv n (qx n m u - kk n m) % n)) :
    (w + m) * iv n (w - m) % n = u := by
  have hp := pr_pos hn
  have hu1 := u_ne1 hn (u := u) (by omega) (by omega) (by omega)
  have hm := ph_ne hn hm0 hm1
  have hW := ww_ok hn m hu1
  have e0 : ph n (qx n m u - kk n m) = (ph n (ww n m u))^2 - 3 * ph n (kk n m) := by rw [ph_sub, ph_qx hn m hu1]; grind
  have hd : ph n (qx n m u - kk n m) ≠ 0 := by
    rw [e0]; exact w_sq hn hm (u_ne0 hn (by omega) h1) hW
  have hi := ph_iv hn hd
  have e1 : ph n w = ph n (ww n m u) := by
    rw [ph_is (by omega) hw, ph_mul, ph_qy hn m hu1, ← e0]
    have : ph n (ww n m u) * ph n (qx n m u - kk n m) * ph n (iv n (qx n m u - kk n m)) = ph n (ww n m u) * (ph n (qx n m u - kk n m) * ph n (iv n (qx n m u - kk n m))) := by grind
    rw [this, hi]; grind
  have hd2 : ph n (w - m) ≠ 0 := by rw [ph_sub, e1]; exact w_ne_m hn hm hW
  have hj := ph_iv hn hd2
  refine ph_eq (by omega) ?_ (rng hn _).1 (rng hn _).2 (by omega) h1
  rw [ph_mod (by omega), ph_mul, ph_add]
  have h := hW.1
  rw [← e1] at h
  rw [ph_sub] at hj
  have : ph n w + ph n m = (ph n w - ph n m) * ph n u := by
    have : (ph n w - ph n m) * ph n u = ph n w * (ph n u - 1) - ph n m * (ph n u + 1) + ph n w + ph n m := by grind
    rw [this, h]; grind
  rw [this]
  have : (ph n w - ph n m) * ph n u * ph n (iv n (w - m)) = ph n u * ((ph n w - ph n m) * ph n (iv n (w - m))) := by grind
  rw [this, hj]; grind
/-- the opposite point is the inverse number's -/
theorem iv_rng (hn : n ∈ primes) {v : Int} (h0 : 2 ≤ v) (h1 : v ≤ (n : Int) - 2) : 2 ≤ iv n v ∧ iv n v ≤ (n : Int) - 2 := by
  have hp := pr_pos hn
  have hv0 := u_ne0 hn (u := v) (by omega) (by omega)
  have hv1 := u_ne1 hn (u := v) (by omega) (by omega) (by omega)
  have hvM := u_neM hn (u := v) (by omega) (by omega) (by omega)
  have hi := ph_iv hn hv0
  have hr := iv_ok hn v (by rw [Int.emod_eq_of_lt] <;> omega)
  have a0 : iv n v ≠ 0 := by
    intro e; rw [e, ph_zero] at hi
    have : (1 : RR n) = 0 := by rw [← hi]; grind
    rw [← ph_one] at this
    exact ph_ne hn (by omega) (by omega) this
  have a1 : iv n v ≠ 1 := by
    intro e; rw [e, ph_one] at hi
    apply hv1; rw [← hi]; grind
  have a2 : iv n v ≠ (n : Int) - 1 := by
    intro e; rw [e, ph_sub, ph_self (by omega), ph_one] at hi
    apply hvM
    have : ph n v = - (ph n v * (0 - 1)) := by grind
    rw [this, hi]
  omega
theorem ww_iv (hn : n ∈ primes) (m : Int) {v : Int} (h0 : 2 ≤ v) (h1 : v ≤ (n : Int) - 2) : ph n (ww n m (iv n v)) = - ph n (ww n m v) := by
  have hp := pr_pos hn
  have hr := iv_rng hn h0 h1
  have hv1 := u_ne1 hn (u := v) (by omega) (by omega) (by omega)
  have hi1 := u_ne1 hn (u := iv n v) (by omega) (by omega) (by omega)
  have := w_of_uv hn hv1 hi1 (ww_ok hn m hv1) (ww_ok hn m hi1) (ph_iv hn (u_ne0 hn (u := v) (by omega) (by omega)))
  have e : ph n (ww n m (iv n v)) = (ph n (ww n m v) + ph n (ww n m (iv n v))) - ph n (ww n m v) := by grind
  rw [e, this]; grind
theorem neg_pt (hn : n ∈ primes) {m v : Int} (hm0 : 0 < m) (hm1 : m < n) (h0 : 2 ≤ v) (h1 : v ≤ (n : Int) - 2) : qx n m (iv n v) = qx n m v ∧ qy n m (iv n v) = (n : Int) - qy n m v := by
  have hp := pr_pos hn
  have hr := iv_rng hn h0 h1
  have hv1 := u_ne1 hn (u := v) (by omega) (by omega) (by omega)
  have hi1 := u_ne1 hn (u := iv n v) (by omega) (by omega) (by omega)
  have hw := ww_iv hn m h0 h1
  constructor
  · refine ph_eq (by omega) ?_ (qx_rng hn m _).1 (qx_rng hn m _).2 (qx_rng hn m _).1 (qx_rng hn m _).2
    rw [ph_qx hn m hv1, ph_qx hn m hi1, hw]; grind
  · have := qy_ne hn hm0 hm1 h0 h1
    refine ph_eq (by omega) ?_ (qy_rng hn m _).1 (qy_rng hn m _).2 (by have := qy_rng hn m v; omega) (by omega)
    rw [ph_sub, ph_self (by omega), ph_qy hn m hv1, ph_qy hn m hi1, hw]; grind
theorem prod_ph (hn : n ∈ primes) (u v : Int) : ph n (u * v % n) = ph n u * ph n v := by rw [ph_mod (pr0 hn), ph_mul]
theorem prod_pos (hn : n ∈ primes) {u v : Int} (hu0 : 0 < u) (hu1 : u < n) (hv0 : 0 < v) (hv1 : v < n) : 0 < u * v % n := by
  have h := nz_mul hn (ph_ne hn hu0 hu1) (ph_ne hn hv0 hv1)
  rw [← prod_ph hn] at h
  have h1 := rng hn (u * v)
  have : u * v % n ≠ 0 := fun e => h (by rw [e]; exact ph_zero)
  omega
/-- what the law's last way looks at -/
theorem pt_zero (hn : n ∈ primes) {m u : Int} (hm0 : 0 < m) (hm1 : m < n) (h0 : 0 < u) (h1 : u < n) (hy : qy n m u ≠ 0) : 2 ≤ u ∧ u ≤ (n : Int) - 2 := by
  have hp := pr_pos hn
  have a1 : u ≠ 1 := by intro e; subst e; exact hy (by simp [qy])
  have a2 : u ≠ (n : Int) - 1 := by intro e; subst e; exact hy (qy_zero hn m)
  omega
end

-- part Mth6
def EInv (n : Nat) (z lm hm low high : Int) : Prop :=
  2 ≤ high ∧ (∃ x y : Int, x * low + y * high = 1) ∧ (n : Int) ∣ lm * z - low ∧ (n : Int) ∣ hm * z - high
section
variable {n : Nat}
theorem E_start (hn : n ∈ primes) {z r : Int} (h0 : 0 < z) (h1 : z < n) (hr : Is r (z % n)) : (0 ≤ r ∧ r < (n : Int) ∧ (n : Int) ≤ 97) ∧ EInv n z 1 0 r n := by
  have hp := pr_pos hn
  have hz : z % (n : Int) = z := Int.emod_eq_of_lt (by omega) h1
  have hr : r = z := by rw [hr, hz]
  subst hr
  have hi := (iv_ok hn r (by omega)).1
  refine ⟨by omega, by omega, ⟨iv n r, - (r * iv n r / n), ?_⟩, ⟨0, by omega⟩, ⟨-1, by omega⟩⟩
  have := Int.mul_ediv_add_emod (r * iv n r) n
  rw [hi] at this
  have e : iv n r * r + -(r * iv n r / (n : Int)) * n = r * iv n r - n * (r * iv n r / n) := by grind
  rw [e]; omega
theorem E_step {z lm hm low high q : Int} (h : EInv n z lm hm low high) (hl : 1 < low) (hlh : low < high) (hh : high ≤ 97) (hq : Is q (high / low)) :
    (0 ≤ high - low * q ∧ high - low * q < low ∧ low ≤ 97) ∧ EInv n z (hm - lm * q) lm (high - low * q) low := by
  obtain ⟨h2, ⟨x, y, hxy⟩, ⟨c, hc⟩, ⟨d, hd⟩⟩ := h
  have e := Int.mul_ediv_add_emod high low
  rw [← hq] at e
  have m0 := Int.emod_nonneg high (b := low) (by omega)
  have m1 := Int.emod_lt_of_pos high (b := low) (by omega)
  refine ⟨by omega, by omega, ⟨y, x + y * q, ?_⟩, ⟨d - c * q, ?_⟩, ⟨c, hc⟩⟩
  · rw [← hxy]; grind
  · have : (hm - lm * q) * z - (high - low * q) = (hm * z - high) - (lm * z - low) * q := by grind
    rw [this, hd, hc]; grind
theorem E_end (hn : n ∈ primes) {z lm hm low high r : Int} (h : EInv n z lm hm low high) (h0 : 0 ≤ low) (h1 : ¬ 1 < low) (hr : Is r (lm % n)) : (z * r) % n = 1 := by
  have hp := pr_pos hn
  obtain ⟨h2, ⟨x, y, hxy⟩, ⟨c, hc⟩, _⟩ := h
  have hl : low = 1 := by
    have : low = 0 ∨ low = 1 := by omega
    rcases this with e | e
    · exfalso
      subst e
      rw [Int.mul_zero, Int.zero_add] at hxy
      have hd : high ∣ 1 := ⟨y, by rw [← hxy]; grind⟩
      have := Int.le_of_dvd (by omega) hd
      omega
    · exact e
  subst hl
  have e1 : ph n (lm * z) = 1 := by
    have : lm * z = n * c + 1 := by omega
    rw [this, ph_add, ph_mul, ph_self (by omega), ph_one]; grind
  have e2 : ph n (z * r) = ph n 1 := by
    rw [ph_mul, ph_is (by omega) hr, ph_one, ← e1, ph_mul]; grind
  have := (ph_iff (by omega) _ _).mp e2
  rw [this, Int.emod_eq_of_lt] <;> omega
end

-- part Mth7
def ivOk2 (n : Nat) : Bool := (List.range n).all fun b => decide (Builtin.powMod b (n - 2) n < n)
theorem iv_tab2 : primes.all ivOk2 = true := by decide +kernel
section
variable {n : Nat}
theorem iv_bd (hn : n ∈ primes) (a : Int) : 0 ≤ iv n a ∧ iv n a < n := by
  have h1 := List.all_eq_true.mp iv_tab2 n hn
  unfold ivOk2 at h1
  have h0 := pr_pos hn
  have a0 := Int.emod_nonneg a (b := (n : Int)) (by omega)
  have a1 := Int.emod_lt_of_pos a (b := (n : Int)) (by omega)
  have h2 := List.all_eq_true.mp h1 (a % n).toNat (List.mem_range.mpr (by omega))
  have h2 := of_decide_eq_true h2
  unfold iv
  omega
theorem pt_end {m u k w x y : Int} (hu : u ≠ 1) (hk : k = kk n m) (hw : Is w (m * (u + 1) * iv n (u - 1) % n)) (hx : Is x ((w * w - 2 * k) % n)) (hy : Is y (w * (x - k) % n)) : x = qx n m u ∧ y = qy n m u := by
  have e1 : w = ww n m u := hw
  have e2 : x = qx n m u := by
    unfold qx; rw [if_neg hu, ← e1, ← hk]; exact hx
  refine ⟨e2, ?_⟩
  unfold qy; rw [if_neg hu, ← e1, ← e2, ← hk]; exact hy
theorem pt_one (m : Int) {u : Int} (hu : u = 1) : (0 : Int) = qx n m u ∧ (0 : Int) = qy n m u := by
  subst hu; simp [qx, qy]
theorem kk_ne (hn : n ∈ primes) {m : Int} (hm0 : 0 < m) (hm1 : m < n) : ph n (kk n m) ≠ 0 := by
  intro e
  have := kk_ok hn m
  rw [e] at this
  exact nz_mul hn (ph_ne hn hm0 hm1) (ph_ne hn hm0 hm1) (by rw [← this]; grind)
theorem pt00 (hn : n ∈ primes) {m t : Int} (hm0 : 0 < m) (hm1 : m < n) (h0 : 0 < t) (h1 : t < n) (hx : qx n m t = 0) (hy : qy n m t = 0) : t = 1 := by
  have hp := pr_pos hn
  by_cases h2 : t = 1
  · exact h2
  by_cases h3 : t = (n : Int) - 1
  · exfalso
    subst h3
    have e := ph_qx hn m (u_ne1 hn (u := (n : Int) - 1) (by omega) (by omega) (by omega))
    rw [hx, ww_M hn m, ph_zero] at e
    have : (2 : RR n) * ph n (kk n m) = 0 := by
      have : (2 : RR n) * ph n (kk n m) = - ((0 : RR n)^2 - 2 * ph n (kk n m)) := by grind
      rw [this, ← e]; grind
    exact nz_mul hn (two_ne hn) (kk_ne hn hm0 hm1) this
  · have := qy_ne hn hm0 hm1 (u := t) (by omega) (by omega)
    omega
theorem num_end (hn : n ∈ primes) {m t x y k w r : Int} (hm : 0 < m ∧ m < n) (ht : 0 < t ∧ t < n) (hx : x = qx n m t) (hy : y = qy n m t) (hk : k = kk n m) (hne : ¬ (x = 0 ∧ y = 0))
    (hw : Is w (y * iv n (x - k) % n)) (hr : Is r ((w + m) * iv n (w - m) % n)) : r = t := by
  subst hx hy hk
  have : t ≠ 1 := by
    intro e; subst e; exact hne (by simp [qx, qy])
  exact hr.trans (number hn hm.1 hm.2 (by omega) ht.2 hw)
theorem b00 {x y : Int} (h : (x == 0 && y == 0) = true) : x = 0 ∧ y = 0 := by simpa using h
theorem nb00 {x y : Int} (h : (x == 0 && y == 0) = false) : ¬ (x = 0 ∧ y = 0) := by
  rintro ⟨rfl, rfl⟩; simp at h
theorem pt00' (hn : n ∈ primes) {m t x y : Int} (hm : 0 < m ∧ m < n) (ht : 0 < t ∧ t < n) (hx : x = qx n m t) (hy : y = qy n m t) (h : (x == 0 && y == 0) = true) : 1 = t := by
  obtain ⟨e1, e2⟩ := b00 h
  exact (pt00 hn hm.1 hm.2 ht.1 ht.2 (hx ▸ e1) (hy ▸ e2)).symm
end

-- part Mth8
section
variable {n : Nat}
theorem kk_is {m k : Int} (h : Is k (m * m * iv n 3 % n)) : k = kk n m := h
theorem cv_is (hn : n ∈ primes) {m k A : Int} (h : Is A (-3 * k * k % n)) (hk : k = kk n m) : Cv n m A := by
  subst hk; exact Cv_ok hn h
theorem m_ne (hn : n ∈ primes) {m : Int} (h : 0 < m ∧ m < n) : ph n m ≠ 0 := ph_ne hn h.1 h.2
theorem u0_ne (hn : n ∈ primes) {u : Int} (h : 2 ≤ u ∧ u ≤ (n : Int) - 2) : ph n u ≠ 0 := u_ne0 hn (by omega) (by omega)
theorem uM_ne (hn : n ∈ primes) {u : Int} (h : 2 ≤ u ∧ u ≤ (n : Int) - 2) : ph n u ≠ -1 := u_neM hn (by omega) (by omega) (by omega)
theorem rp (hn : n ∈ primes) {m u : Int} (h : 2 ≤ u ∧ u ≤ (n : Int) - 2) : Rep n m u (qx n m u) (qy n m u) 1 := rep_pt hn m (u_ne1 hn (by omega) (by omega) (by omega))
theorem rn (hn : n ∈ primes) {m v : Int} (hm : 0 < m ∧ m < n) (h : 2 ≤ v ∧ v ≤ (n : Int) - 2) : Rep n m (iv n v) (qx n m v) ((n : Int) - qy n m v) 1 := by
  have e := neg_pt hn hm.1 hm.2 h.1 h.2
  rw [← e.1, ← e.2]
  exact rp hn (iv_rng hn h.1 h.2)
theorem ny_rng (hn : n ∈ primes) {m v : Int} (hm : 0 < m ∧ m < n) (h : 2 ≤ v ∧ v ≤ (n : Int) - 2) : 0 ≤ (n : Int) - qy n m v ∧ (n : Int) - qy n m v < n := by
  have := qy_ne hn hm.1 hm.2 h.1 h.2
  have := qy_rng hn m v
  omega
theorem rs (hn : n ∈ primes) {m u X Y z : Int} (hX : Is X (qx n m u * z * z % n)) (hY : Is Y (qy n m u * z * z * z % n)) (hz : 0 < z ∧ z < n) (h : 2 ≤ u ∧ u ≤ (n : Int) - 2) : Rep n m u X Y z :=
  rep_scaled hn m (u_ne1 hn (by omega) (by omega) (by omega)) (ph_ne hn hz.1 hz.2) hX hY
theorem tt_rng (hn : n ∈ primes) {u v : Int} (h : 2 ≤ u ∧ u ≤ (n : Int) - 2) (h' : 2 ≤ v ∧ v ≤ (n : Int) - 2) : 0 < u * v % n ∧ u * v % n < n :=
  ⟨prod_pos hn (by omega) (by omega) (by omega) (by omega), (rng hn _).2⟩
theorem pt_z (hn : n ∈ primes) {m u : Int} (h : qy n m u ≠ 0) (hm : 0 < m ∧ m < n) (hu : 0 < u ∧ u < n) : 2 ≤ u ∧ u ≤ (n : Int) - 2 := pt_zero hn hm.1 hm.2 hu.1 hu.2 h
end

-- part Pow
theorem entry_pw : entryFor table "pow" = some Builtin.«pow» := entryFor_of_tree (by kernel_rfl)
theorem kind_pw : builtinKind "pow" = none := by kernel_rfl
theorem plain_pw : plainId "pow" = true := by decide +kernel
theorem args_pw (a b c : Value) : argsOk "pow" ⟨[a, b, c], []⟩ := by unfold argsOk; kernel_rfl
theorem args_ipow (a b c : Value) : argsOk "int.__pow__" ⟨[a, b, c], []⟩ := by unfold argsOk; kernel_rfl
theorem run_pow3 (a : Int) (t : Tok) (b : Int) (u : Tok) (c : Int) (v : Tok) (hb : ¬ b < 0) (h0 : ¬(c == 0) = true) (h1 : ¬(c.natAbs == 1) = true) (hc : (decide (c < 0) && ((Builtin.powMod (a % (c.natAbs : Int)).toNat b.natAbs c.natAbs : Nat) : Int) != 0) = false) :
    Gives (Builtin.«int.__pow__» ⟨[.int a t, .int b u, .int c v], []⟩) (.int ((Builtin.powMod (a % (c.natAbs : Int)).toNat b.natAbs c.natAbs : Nat) : Int)) :=
  .of_wp fun M A E s Q h => by
    obtain ⟨hp, g, d, tk, os⟩ := s; wp_walk
    refine ⟨_, rfl, ?_⟩
    rw [hc]
    exact h
section
variable {prog : Program} {w : World} {A : Around} {E : Value → Shared → Prop} {s : Shared} {a b c : Int} {t u v : Tok} {Q : Value → Shared → Prop}
theorem call_pow3 (hb : ¬ b < 0) (hc : 1 < c) (h : Q (.int ((Builtin.powMod (a % (c.natAbs : Int)).toNat b.natAbs c.natAbs : Nat) : Int) s.toks) { s with toks := s.toks + 1 }) :
    wpAny (model prog w) A (call (.builtin "pow") [.int a t, .int b u, .int c v]) Q E s := by
  refine Calls.call_function_entry kind_pw plain_pw entry_pw (args_pw _ _ _) ?_
  unfold Builtin.«pow»
  refine wpAny_bind (wpAny_of_eq (show Builtin.Builtins.bindParams "pow" ["base", "exp", "mod"] 2 ⟨[.int a t, .int b u, .int c v], []⟩ = pure [some (.int a t), some (.int b u), some (.int c v)] from rfl) ?_)
  dsimp only [Option.getD]
  obtain ⟨hp, g, d, tk, os⟩ := s
  wp_walk
  refine wpAny_of_eq slot_int_pow.lookup ?_
  dsimp only
  with_reducible refine wpAny_bind ?_
  have sl : Slot "int" (Str.ofString "__pow__") "int.__pow__" := slot_int_pow
  with_reducible refine wpAny_callSpecial?_slot (T := "int") (id := "int.__pow__") ?a sl ?_
  · exact typeIs_int _ _ _
  refine call_meets slot_int_pow (typeIs_int _ _ _) entry_int_pow (args_ipow _ _ _) (run_pow3 a t b u c v hb (by simp; omega) (by simp; omega) (by simp; omega)).meets ?_
  show wpAny _ _ _ _ _ _
  dsimp only
  wp_walk
  exact ⟨_, rfl, h⟩
theorem my_powmod {n : Nat} (h1 : 7 ≤ n) (hb : b = (n : Int) - 2) (h : ∀ (t' : Tok) (tk : Nat), Q (.int (iv n a) t') { s with toks := tk }) :
    wpAny (model prog w) A (call (.builtin "pow") [.int a t, .int b u, .int (n : Int) v]) Q E s := by
  refine call_pow3 (by omega) (by omega) ?_
  have e : b.natAbs = n - 2 := by omega
  rw [e, Int.natAbs_natCast]
  exact h _ _
end

-- part Ctr0
section
variable {prog : Program} {w : World} {A : Around} {E : Value → Shared → Prop} {s : Shared} {a b n : Int} {t u : Tok} {Q : Value → Shared → Prop}
theorem my_mod (hb : 0 < b) (h : ∀ (r : Int) (t' : Tok) (tk : Nat), Is r (a % b) → 0 ≤ r → r < b → Q (.int r t') { s with toks := tk }) :
    wpAny (model prog w) A (binaryOp .Mod (.int a t) (.int b u)) Q E s := by
  refine mod_int' (by omega) ?_
  refine h _ _ _ ?_ ?_ ?_
  · exact Int.fmod_eq_emod_of_nonneg _ (by omega)
  · rw [Int.fmod_eq_emod_of_nonneg _ (by omega)]; exact Int.emod_nonneg _ (by omega)
  · rw [Int.fmod_eq_emod_of_nonneg _ (by omega)]; exact Int.emod_lt_of_pos _ hb
theorem my_pow {k : Nat} (hk : k ≤ 10) (l0 : -10000000 < a) (l1 : a < 10000000) (h : ∀ (t' : Tok) (tk : Nat), Q (.int (a ^ k) t') { s with toks := tk }) :
    wpAny (model prog w) A (binaryOp .Pow (.int a t) (.int (k : Int) u)) Q E s := by
  refine pow_int_small (by omega) (by omega) (by omega) ?_
  exact h _ _
theorem my_pow2 (l0 : -10000000 < a) (l1 : a < 10000000) (h : ∀ (t' : Tok) (tk : Nat), Q (.int (a ^ 2) t') { s with toks := tk }) :
    wpAny (model prog w) A (binaryOp .Pow (.int a t) (.int 2 u)) Q E s := my_pow (k := 2) (by decide) l0 l1 h
theorem my_pow3 (l0 : -10000000 < a) (l1 : a < 10000000) (h : ∀ (t' : Tok) (tk : Nat), Q (.int (a ^ 3) t') { s with toks := tk }) :
    wpAny (model prog w) A (binaryOp .Pow (.int a t) (.int 3 u)) Q E s := my_pow (k := 3) (by decide) l0 l1 h
theorem my_pow4 (l0 : -10000000 < a) (l1 : a < 10000000) (h : ∀ (t' : Tok) (tk : Nat), Q (.int (a ^ 4) t') { s with toks := tk }) :
    wpAny (model prog w) A (binaryOp .Pow (.int a t) (.int 4 u)) Q E s := my_pow (k := 4) (by decide) l0 l1 h
theorem my_mulR (l0 : -10000000 < b) (l1 : b < 10000000) (h : ∀ (t' : Tok) (tk : Nat), Q (.int (a * b) t') { s with toks := tk }) :
    wpAny (model prog w) A (binaryOp .Mult (.int a t) (.int b u)) Q E s := mul_int (h _ _) (IntMulOk.of_right (intBits_le_64 (by omega) (by omega)))
theorem my_mulL (l0 : -10000000 < a) (l1 : a < 10000000) (h : ∀ (t' : Tok) (tk : Nat), Q (.int (a * b) t') { s with toks := tk }) :
    wpAny (model prog w) A (binaryOp .Mult (.int a t) (.int b u)) Q E s := mul_int (h _ _) (IntMulOk.of_left (intBits_le_64 (by omega) (by omega)))
theorem my_add (h : ∀ (t' : Tok) (tk : Nat), Q (.int (a + b) t') { s with toks := tk }) :
    wpAny (model prog w) A (binaryOp .Add (.int a t) (.int b u)) Q E s := add_int (h _ _)
theorem my_sub (h : ∀ (t' : Tok) (tk : Nat), Q (.int (a - b) t') { s with toks := tk }) :
    wpAny (model prog w) A (binaryOp .Sub (.int a t) (.int b u)) Q E s := sub_int (h _ _)
end
section
variable {h₀ h : Heap} {L : Addr} {news : List (Addr × Obj)} {p1 p2 p3 p4 p5 p6 : Addr × Obj}
theorem drop1 (N : News h₀ L h (p1 :: news)) : News h₀ L h news := cb_drop N fun _ q => .tail _ q
theorem drop2 (N : News h₀ L h (p1 :: p2 :: news)) : News h₀ L h news := cb_drop N fun _ q => .tail _ (.tail _ q)
theorem drop3 (N : News h₀ L h (p1 :: p2 :: p3 :: news)) : News h₀ L h news := cb_drop N fun _ q => .tail _ (.tail _ (.tail _ q))
theorem keep1_1 (N : News h₀ L h (p1 :: p2 :: news)) : News h₀ L h (p1 :: news) := fun p hp => N p (by
  rcases List.mem_cons.mp hp with rfl | hp
  · exact .head _
  · exact .tail _ (.tail _ hp))
theorem keep1_2 (N : News h₀ L h (p1 :: p2 :: p3 :: news)) : News h₀ L h (p1 :: news) := keep1_1 (keep1_1 N)
theorem keep1_3 (N : News h₀ L h (p1 :: p2 :: p3 :: p4 :: news)) : News h₀ L h (p1 :: news) := keep1_1 (keep1_2 N)
theorem keep1_4 (N : News h₀ L h (p1 :: p2 :: p3 :: p4 :: p5 :: news)) : News h₀ L h (p1 :: news) := keep1_1 (keep1_3 N)
theorem lt_tail {D : Addr} (l : ∀ q ∈ (p1 :: news), q.1 < D) : ∀ q ∈ news, q.1 < D := fun q hq => l q (.tail _ hq)
end

-- part Rng
section
variable {prog : Program} {w : World} {A : Around} {E : Value → Shared → Prop} {Q : Flow → Shared → Prop} {s : Shared} {env : Env} {h₀ : Heap} {x told due fac : Str} {body : List Stmt}
/-- the frame between the turns: told, due and what the turn forgets -/
def lm (m₀ : Str → Option Value) (x told due fac : Str) (a : Option Value) (D : Addr) (v : Value) (u : Str → Option Value) : Str → Option Value :=
  fun y => if y = x then a else if y = told then some (.ref D) else if y = due then some v else if y = fac then u y else m₀ y
def LEnd (h₀ : Heap) (L : Addr) (s : Shared) (m₀ : Str → Option Value) (x told due fac : Str) (G : Obj → Value → Prop) (news : List (Addr × Obj)) (I : Addr) (oI : Obj) (s₂ : Shared) : Prop :=
  ∃ h' tk m' D o v news', s₂ = { s with heap := h', toks := tk } ∧ Fr h₀ L h' m' ∧ News h₀ L h' news' ∧ (D, o) ∈ news' ∧ (I, oI) ∈ news' ∧ (∀ p ∈ news, p ∈ news') ∧ D ≠ I ∧ G o v ∧
    m' told = some (.ref D) ∧ m' due = some v ∧ ∀ z, z ≠ x → z ≠ told → z ≠ due → z ≠ fac → m' z = m₀ z
def LPost (h₀ : Heap) (L : Addr) (s : Shared) (m₀ : Str → Option Value) (x told due fac : Str) (G : Obj → Value → Prop) (news : List (Addr × Obj)) (I : Addr) (oI : Obj) (Q : Flow → Shared → Prop) (f : Flow) (s₂ : Shared) : Prop :=
  match f with
  | .ret v => Q (.ret v) s₂
  | .brk => Q .next s₂
  | _ => LEnd h₀ L s m₀ x told due fac G news I oI s₂
theorem LEnd.intro {L : Addr} {m₀ m' : Str → Option Value} {G : Obj → Value → Prop} {news news' : List (Addr × Obj)} {I D : Addr} {oI o : Obj} {v : Value} {h' : Heap} {tk : Nat}
    (F : Fr h₀ L h' m') (N : News h₀ L h' news') (hD : (D, o) ∈ news') (hI : (I, oI) ∈ news') (hn : ∀ p ∈ news, p ∈ news') (ne : D ≠ I) (hG : G o v) (h1 : m' told = some (.ref D)) (h2 : m' due = some v)
    (h3 : ∀ z, z ≠ x → z ≠ told → z ≠ due → z ≠ fac → m' z = m₀ z) : LEnd h₀ L s m₀ x told due fac G news I oI { s with heap := h', toks := tk } :=
  ⟨h', tk, m', D, o, v, news', rfl, F, N, hD, hI, hn, ne, hG, h1, h2, h3⟩
theorem lm_eq {m m₀ : Str → Option Value} {a : Option Value} {D : Addr} {v : Value} (h1 : m told = some (.ref D)) (h2 : m due = some v) (h3 : ∀ z, z ≠ x → z ≠ told → z ≠ due → z ≠ fac → m z = m₀ z) :
    (fun y => if y = x then a else m y) = lm m₀ x told due fac a D v m := by
  funext y
  unfold lm
  by_cases e0 : y = x
  · rw [if_pos e0, if_pos e0]
  rw [if_neg e0, if_neg e0]
  by_cases e1 : y = told
  · rw [if_pos e1, e1]; exact h1
  rw [if_neg e1]
  by_cases e2 : y = due
  · rw [if_pos e2, e2]; exact h2
  rw [if_neg e2]
  by_cases e3 : y = fac
  · rw [if_pos e3]
  rw [if_neg e3]
  exact h3 y e0 e1 e2 e3
theorem my_range {r : Addr} {t₀ u₀ v₀ : Tok} {m₀ : Str → Option Value} {news : List (Addr × Obj)} (told due fac : Str) (G : Obj → Value → Prop) {D₀ : Addr} {o₀ : Obj} {w₀ : Value}
    (hh : A.handled = none) (hr : IsRange s.heap r 0 6 1 t₀ u₀ v₀) (F : Fr h₀ env.locals s.heap m₀) (N : News h₀ env.locals s.heap news) (hd : (D₀, o₀) ∈ news) (hg : G o₀ w₀) (ht : m₀ told = some (.ref D₀)) (hdu : m₀ due = some w₀)
    (turn : ∀ (k : Int) t D o v (u : Str → Option Value) h tk I oI, 0 ≤ k → k < 6 → D ≠ I → G o v → Fr h₀ env.locals h (lm m₀ x told due fac (some (.int k t)) D v u) → News h₀ env.locals h ((D, o) :: (I, oI) :: news) →
      wpAny (model prog w) A (execs body env) (LPost h₀ env.locals { s with heap := h, toks := tk } m₀ x told due fac G news I oI Q) E { s with heap := h, toks := tk })
    (done : ∀ D o v (u : Str → Option Value) h tk, G o v → Fr h₀ env.locals h (lm m₀ x told due fac (u x) D v u) → News h₀ env.locals h ((D, o) :: news) → Q .next { s with heap := h, toks := tk }) :
    wpAny (model prog w) A (pyIter (.ref r)) (fun it s₂ => LoopAtV prog w A h₀ env x body Q E it s₂) E s := by
  refine wpAny_pyIter_range hr (by decide) ?_
  have W : Walks prog w A s.heap.objs.size [s.heap.objs.size] [s.heap.objs.size] 6 (fun i v => i < 6 ∧ ∃ t, v = .int (0 + i * 1) t)
      (fun i h => IsRangeIter h s.heap.objs.size (0 + (i : Nat) * 1) (((6 : Nat) : Int) - (i : Nat)) 1) := (Walks.range hh _ 0 1 6).bound
  let J : Nat → (Str → Option Value) → List (Addr × Obj) → Prop := fun _ m nx => ∃ D o v, nx = (D, o) :: news ∧ G o v ∧ m told = some (.ref D) ∧ m due = some v ∧ ∀ z, z ≠ x → z ≠ told → z ≠ due → z ≠ fac → m z = m₀ z
  have N1 : News h₀ env.locals s.heap ((D₀, o₀) :: news) := fun p hp => (List.mem_cons.mp hp).elim (fun e => e ▸ N _ hd) (N p)
  refine ⟨_, _, _, 6, _, _, m₀, (D₀, o₀) :: news, J, rfl, W, ?_, ?_, ?_, ?_, F.push _, (fun p hp => ⟨Heap.get?_push_of_some _ (N1 p hp).1, (N1 p hp).2⟩), ⟨D₀, o₀, w₀, rfl, hg, ht, hdu, fun _ _ _ _ _ => rfl⟩, ?_, ?_⟩
  · intro hm
    exact absurd F.ns.lt ((List.mem_singleton.mp hm) ▸ Nat.lt_irrefl _)
  · intro b hb
    rw [List.mem_singleton.mp hb]
    exact next_is_new F
  · intro p hp hI
    exact absurd (Heap.lt_size (N1 p hp).1) ((List.mem_singleton.mp hI) ▸ Nat.lt_irrefl _)
  · show IsRangeIter _ _ _ _ _
    have : Builtin.Range.rangeSize 0 6 1 = (6 : Int) := by decide
    rw [this]; simpa using Heap.get?_push_size _ rfl
  · rintro i v m₁ nx s₁ own ⟨hh', tk', rfl⟩ hi ⟨_, t, rfl⟩ ⟨D, o, v, rfl, hG, h1, h2, h3⟩ hoff hown hat hall hst F₁ N₁
    have hnew := next_is_new F
    obtain ⟨oI, hoI⟩ : ∃ oI, hh'.get? s.heap.objs.size = some oI := ⟨_, hst⟩
    have hIn : (s.heap.objs.size, oI) ∈ own := hall _ (List.mem_singleton.mpr rfl) hnew _ hoI
    have hDI : D ≠ s.heap.objs.size := fun e => hoff _ (.head _) (List.mem_singleton.mpr e)
    rw [lm_eq h1 h2 h3] at F₁
    have N₂ : News h₀ env.locals hh' ((D, o) :: (s.heap.objs.size, oI) :: news) := fun p hp => by
      rcases List.mem_cons.mp hp with rfl | hp
      · exact N₁ _ (List.mem_append.mpr (.inr (.head _)))
      rcases List.mem_cons.mp hp with rfl | hp
      · exact N₁ _ (List.mem_append.mpr (.inl hIn))
      · exact N₁ _ (List.mem_append.mpr (.inr (.tail _ hp)))
    refine wpAny_mono (turn _ t D o v m₁ hh' tk' s.heap.objs.size oI (by omega) (by omega) hDI hG F₁ N₂) (fun f s₂ p => ?_) fun _ _ e => e
    have fin : LEnd h₀ env.locals { s with heap := hh', toks := tk' } m₀ x told due fac G news s.heap.objs.size oI s₂ → LoopStepU h₀ env.locals [s.heap.objs.size] own (J (i + 1)) { s with heap := hh', toks := tk' } .next s₂ := by
      rintro ⟨h', tk, m', D', o', v', news', e, F', N', hD', hI', hn', ne, hG', g1, g2, g3⟩
      refine ⟨rfl, h', tk, m', (D', o') :: news, e, F', fun p hp => ?_, fun p hp hq => ?_, ⟨D', o', v', rfl, hG', g1, g2, g3⟩⟩
      · rcases List.mem_append.mp hp with hp | hp
        · have e1 := List.mem_singleton.mp (hown p hp)
          have e2 := hat p hp
          rw [e1] at e2
          have e2 : hh'.get? s.heap.objs.size = some p.2 := e2
          rw [hoI] at e2
          have : p = (s.heap.objs.size, oI) := Prod.ext e1 (Option.some.inj e2).symm
          rw [this]; exact N' _ hI'
        · rcases List.mem_cons.mp hp with rfl | hp
          · exact N' _ hD'
          · exact N' _ (hn' p hp)
      · have e1 := List.mem_singleton.mp hq
        rcases List.mem_cons.mp hp with rfl | hp
        · exact ne e1
        · exact absurd (Heap.lt_size (N p hp).1) (by rw [e1]; exact Nat.lt_irrefl _)
    cases f with
    | ret v => exact .ret p
    | brk => exact .brk p
    | next => exact .next (fin p)
    | cont => exact .cont (fin p)
  · rintro h' tk m' news' F' N' _ ⟨D, o, v, rfl, hG, h1, h2, h3⟩
    have e : (fun y => if y = x then m' x else m' y) = m' := by
      funext y; by_cases h : y = x
      · rw [if_pos h, h]
      · rw [if_neg h]
    have F2 : Fr h₀ env.locals h' (fun y => if y = x then m' x else m' y) := by rw [e]; exact F'
    rw [lm_eq h1 h2 h3] at F2
    exact done D o v m' h' tk hG F2 N'
def Gd (n : Nat) (m : Int) (o : Obj) (v : Value) : Prop := ∃ (du : Int) (t1 t2 td : Tok), o = ({ cls := .type "tuple", data := .seq #[.int (qx n m du) t1, .int (qy n m du) t2] } : Obj) ∧ v = .int du td ∧ 0 < du ∧ du < n
theorem Gd_intro {n : Nat} {m du : Int} {t1 t2 td : Tok} (h : 0 < du ∧ du < n) : Gd n m ({ cls := .type "tuple", data := .seq #[.int (qx n m du) t1, .int (qy n m du) t2] } : Obj) (.int du td) := ⟨du, t1, t2, td, rfl, rfl, h.1, h.2⟩
theorem my_loop {n : Nat} {m du₀ : Int} {t1₀ t2₀ td₀ : Tok} {r : Addr} {t₀ u₀ v₀ : Tok} {m₀ : Str → Option Value} {news : List (Addr × Obj)} (told due fac : Str) {D₀ : Addr}
    (hh : A.handled = none) (hr : IsRange s.heap r 0 6 1 t₀ u₀ v₀) (F : Fr h₀ env.locals s.heap m₀) (N : News h₀ env.locals s.heap news) (ht : m₀ told = some (.ref D₀)) (hdu : m₀ due = some (.int du₀ td₀))
    (hd : (D₀, ({ cls := .type "tuple", data := .seq #[.int (qx n m du₀) t1₀, .int (qy n m du₀) t2₀] } : Obj)) ∈ news) (hg : 0 < du₀ ∧ du₀ < n)
    (turn : ∀ (k : Int) t D (du : Int) t1 t2 td (u : Str → Option Value) h tk I oI, 0 ≤ k → k < 6 → D ≠ I → 0 < du → du < n → Fr h₀ env.locals h (lm m₀ x told due fac (some (.int k t)) D (.int du td) u) →
      News h₀ env.locals h ((D, ({ cls := .type "tuple", data := .seq #[.int (qx n m du) t1, .int (qy n m du) t2] } : Obj)) :: (I, oI) :: news) →
      wpAny (model prog w) A (execs body env) (LPost h₀ env.locals { s with heap := h, toks := tk } m₀ x told due fac (Gd n m) news I oI Q) E { s with heap := h, toks := tk })
    (done : ∀ D (du : Int) t1 t2 td (u : Str → Option Value) h tk, 0 < du → du < n → Fr h₀ env.locals h (lm m₀ x told due fac (u x) D (.int du td) u) →
      News h₀ env.locals h ((D, ({ cls := .type "tuple", data := .seq #[.int (qx n m du) t1, .int (qy n m du) t2] } : Obj)) :: news) → Q .next { s with heap := h, toks := tk }) :
    wpAny (model prog w) A (pyIter (.ref r)) (fun it s₂ => LoopAtV prog w A h₀ env x body Q E it s₂) E s := by
  refine my_range told due fac (Gd n m) hh hr F N hd (Gd_intro hg) ht hdu ?_ ?_
  · rintro k t D o v u h tk I oI hk0 hk1 hne ⟨du, t1, t2, td, rfl, rfl, h0, h1⟩ F N
    exact turn k t D du t1 t2 td u h tk I oI hk0 hk1 hne h0 h1 F N
  · rintro D o v u h tk ⟨du, t1, t2, td, rfl, rfl, h0, h1⟩ F N
    exact done D du t1 t2 td u h tk h0 h1 F N
end

-- part Ctr1
local macro_rules | `(tactic| walk_at "binaryOp Mod int int") => `(tactic| (k_here; (with_reducible refine my_mod ?mhb ?_); (case mhb => omega); intro r' t' k' e' l' u'))
local macro_rules | `(tactic| walk_at "binaryOp Pow int int") => `(tactic| (k_here; first | (with_reducible refine my_pow2 ?mha ?mhb ?_) | (with_reducible refine my_pow3 ?mha ?mhb ?_) | (with_reducible refine my_pow4 ?mha ?mhb ?_); (case mha => omega); (case mhb => omega); intro t' k'))
local macro_rules | `(tactic| walk_at "binaryOp Mult int int") => `(tactic| (k_here; first | ((with_reducible refine my_mulR ?mha ?mhb ?_); (case mha => omega); (case mhb => omega)) | ((with_reducible refine my_mulL ?mha ?mhb ?_); (case mha => omega); (case mhb => omega)); intro t' k'))
local macro_rules | `(tactic| walk_at "binaryOp Add int int") => `(tactic| (k_here; (with_reducible refine my_add ?_); intro t' k'))
local macro_rules | `(tactic| walk_at "binaryOp Sub int int") => `(tactic| (k_here; (with_reducible refine my_sub ?_); intro t' k'))
section
variable {w : World} {loose : List Str} {mean : ExcName → Option Value} {mg mb : Str → Option Value} {dp un : Nat} {gd : Option (List Code)} {cn : Str} {cs : Scope} {a : Addr} {ccd : Value} {cl : List (Str × Addr)} {outer : List Env} {A₀ : Around} {base h₀ : Heap} {L : Addr} {mm : Str → Option Value} {news : List (Addr × Obj)} {s : Shared} {Q E : Value → Shared → Prop}
theorem dbl_spec {n : Nat} {m u t x y z A N' B g1 g2 : Int} {t1 t2 t3 u1 u2 u3 u4 u5 u6 : Tok} {pa ca : Addr} {n1 n2 : Nat}
    (zB : Below A₀ base outer h₀) (zF : Fr h₀ L s.heap mm) (zX : (hd.heap_39 w.params).In h₀) (zN : News h₀ L s.heap news) (zT : Top hd.view_39 loose mean mg mb h₀) (zhk : cs.kind = .function) (zhd : dp + 20 < recursionLimit) (zhu : un + 80 < cLine)
    (zhp : (pa, ({ cls := .type "tuple", data := .seq #[.int x t1, .int y t2, .int z t3] n1 } : Obj)) ∈ news)
    (zhc : (ca, ({ cls := .type "tuple", data := .seq #[.int (n : Int) u1, .int N' u2, .int A u3, .int B u4, .int g1 u5, .int g2 u6] n2 } : Obj)) ∈ news)
    (zhn : n ∈ primes) (zhm : ph n m ≠ 0) (zhu0 : ph n u ≠ 0) (zhu1 : ph n u ≠ -1) (zr : Rep n m u x y z) (zhA : Cv n m A) (zht : ph n t = ph n u * ph n u)
    (zhx : 0 ≤ x ∧ x < n) (zhy : 0 ≤ y ∧ y < n) (zhz : 0 < z ∧ z < n) (zhA' : 0 ≤ A ∧ A < n)
    (zhret : ∀ D X Y Z t1 t2 t3 h' tk', Rep n m t X Y Z → 0 ≤ X → X < n → 0 ≤ Y → Y < n → 0 ≤ Z → Z < n → Fr h₀ L h' mm → News h₀ L h' ((D, ({ cls := .type "tuple", data := .seq #[.int X t1, .int Y t2, .int Z t3] } : Obj)) :: news) → (∀ q ∈ news, q.1 < D) → Q (.ref D) { s with heap := h', toks := tk' }) :
    wpAny (model PySem.Challenge.rw_bw0035_01.row.prog w) (ktrTop dp un gd cn cs L a ccd cl outer) (call (.ref 35) [.ref pa, .ref ca]) Q E s := by
  revert zX; k_fill; intro zX
  have hn7 := (pr_pos zhn).1
  have hn97 := (pr_pos zhn).2
  have hy0 : y ≠ 0 := fun e => y_ne zhn zhm zhu0 zhu1 zr (by rw [e]; exact ph_zero)
  refine wpAny_call ?_
  k_dflt ktr_enter
  k_steps
  all_goals first | (exfalso; omega) | skip
  exact zhret _ _ _ _ _ _ _ _ _ (T_dbl zhn zhm zhu0 zhu1 zr zhA (by assumption) (by assumption) (by assumption) (by assumption) (by assumption) (by assumption) zht) (by assumption) (by assumption) (by assumption) (by assumption) (by assumption) (by assumption) (by assumption) (by assumption) (by assumption)
end

-- part Ctr2
theorem same_t {n : Nat} {m u v t x1 y1 z1 x2 y2 z2 U1 U2 S1 S2 : Int} (ht : ph n t = ph n u * ph n v) (r1 : Rep n m u x1 y1 z1) (r2 : Rep n m v x2 y2 z2)
    (hn : n ∈ primes) (hm : ph n m ≠ 0) (hu0 : ph n u ≠ 0) (hu1 : ph n u ≠ -1)
    (e1 : Is U1 (x1 * z2^2 % n)) (e2 : Is U2 (x2 * z1^2 % n)) (e3 : Is S1 (y1 * z2^3 % n)) (e4 : Is S2 (y2 * z1^3 % n)) (e : U1 = U2) (ee : S1 = S2) : ph n t = ph n u * ph n u := by
  rw [ht, T_same hn hm hu0 hu1 r1 r2 e1 e2 e3 e4 e ee]
local macro_rules | `(tactic| walk_at "call ref") => `(tactic| (k_here; (with_reducible show wpAny _ _ (call (Value.ref 35) _) _ _ _); (refine' dbl_spec ?k1 ?k2 ?k3 ?k4 ?k5 ?kK ?kd ?ku ?kp ?kc ?kn ?km ?ke ?kf ?kr ?kA ?kt ?kx ?ky ?kz ?kb ?_); (case k1 => k_asm); (case k2 => k_asm); (case k3 => k_asm); (case k4 => k_asm); (case k5 => k_asm); (case kK => first | exact rfl | assumption); (case kd => ktr_room); (case ku => ktr_units); (case kp => k_mem); (case kc => k_mem); (case kn => assumption); (case kr => assumption); (case kA => assumption); (case km => assumption); (case ke => assumption); (case kf => assumption); (case kt => exact same_t (by assumption) (by assumption) (by assumption) (by assumption) (by assumption) (by assumption) (by assumption) (by assumption) (by assumption) (by assumption) (by assumption) (by assumption) (by assumption)); (case kx => assumption); (case ky => assumption); (case kz => assumption); (case kb => assumption); intro D9 X9 Y9 Z9 ta9 tb9 tc9 h9 tk9 r9 xa9 xb9 ya9 yb9 za9 zb9 F9 N9 l9; (try dsimp only); (try k_fold)))
section
variable {w : World} {loose : List Str} {mean : ExcName → Option Value} {mg mb : Str → Option Value} {dp un : Nat} {gd : Option (List Code)} {cn : Str} {cs : Scope} {a : Addr} {ccd : Value} {cl : List (Str × Addr)} {outer : List Env} {A₀ : Around} {base h₀ : Heap} {L : Addr} {mm : Str → Option Value} {news : List (Addr × Obj)} {s : Shared} {Q E : Value → Shared → Prop}
theorem jadd_spec {n : Nat} {m u v t x1 y1 z1 x2 y2 z2 A N' B g1 g2 : Int} {t1 t2 t3 s1 s2 s3 u1 u2 u3 u4 u5 u6 : Tok} {pa qa ca : Addr} {n1 n2 n3 : Nat}
    (zB : Below A₀ base outer h₀) (zF : Fr h₀ L s.heap mm) (zX : (hd.heap_39 w.params).In h₀) (zN : News h₀ L s.heap news) (zT : Top hd.view_39 loose mean mg mb h₀) (zhk : cs.kind = .function) (zhd : dp + 40 < recursionLimit) (zhu : un + 160 < cLine)
    (zhp : (pa, ({ cls := .type "tuple", data := .seq #[.int x1 t1, .int y1 t2, .int z1 t3] n1 } : Obj)) ∈ news)
    (zhq : (qa, ({ cls := .type "tuple", data := .seq #[.int x2 s1, .int y2 s2, .int z2 s3] n3 } : Obj)) ∈ news)
    (zhc : (ca, ({ cls := .type "tuple", data := .seq #[.int (n : Int) u1, .int N' u2, .int A u3, .int B u4, .int g1 u5, .int g2 u6] n2 } : Obj)) ∈ news)
    (zhn : n ∈ primes) (zhm : ph n m ≠ 0) (zhu0 : ph n u ≠ 0) (zhu1 : ph n u ≠ -1) (zhv0 : ph n v ≠ 0) (zhv1 : ph n v ≠ -1) (zr1 : Rep n m u x1 y1 z1) (zr2 : Rep n m v x2 y2 z2) (zhA : Cv n m A) (zht : ph n t = ph n u * ph n v)
    (zhx : 0 ≤ x1 ∧ x1 < n) (zhy : 0 ≤ y1 ∧ y1 < n) (zhz : 0 < z1 ∧ z1 < n) (zhx' : 0 ≤ x2 ∧ x2 < n) (zhy' : 0 ≤ y2 ∧ y2 < n) (zhz' : 0 < z2 ∧ z2 < n) (zhA' : 0 ≤ A ∧ A < n)
    (zhret : ∀ D X Y Z t1 t2 t3 h' tk', RepJ n m t X Y Z → 0 ≤ X → X < n → 0 ≤ Y → Y < n → 0 ≤ Z → Z < n → Fr h₀ L h' mm → News h₀ L h' ((D, ({ cls := .type "tuple", data := .seq #[.int X t1, .int Y t2, .int Z t3] } : Obj)) :: news) → (∀ q ∈ news, q.1 < D) → Q (.ref D) { s with heap := h', toks := tk' }) :
    wpAny (model PySem.Challenge.rw_bw0035_01.row.prog w) (ktrTop dp un gd cn cs L a ccd cl outer) (call (.ref 42) [.ref pa, .ref qa, .ref ca]) Q E s := by
  revert zX; k_fill; intro zX
  have hn7 := (pr_pos zhn).1
  have hn97 := (pr_pos zhn).2
  have hy0 : y1 ≠ 0 := fun e => y_ne zhn zhm zhu0 zhu1 zr1 (by rw [e]; exact ph_zero)
  have hy0' : y2 ≠ 0 := fun e => y_ne zhn zhm zhv0 zhv1 zr2 (by rw [e]; exact ph_zero)
  refine wpAny_call ?_
  k_dflt ktr_enter
  k_steps
  all_goals first | (exfalso; omega) | skip
  · exact zhret _ _ _ _ _ _ _ _ _ (Or.inl ⟨zht.trans (T_opp zhn zhm zr1 zr2 (by assumption) (by assumption) (by assumption) (by assumption) (by assumption) (by assumption)), rfl, rfl, rfl⟩) (by omega) (by omega) (by omega) (by omega) (by omega) (by omega) (by assumption) (by assumption) (by assumption)
  · exact zhret _ _ _ _ _ _ _ _ _ (Or.inr (by assumption)) (by assumption) (by assumption) (by assumption) (by assumption) (by assumption) (by assumption) (by assumption) (by assumption) (by assumption)
  · exact zhret _ _ _ _ _ _ _ _ _ (Or.inr (T_add zhn zr1 zr2 (by assumption) (by assumption) (by assumption) (by assumption) (by assumption) (by assumption) (by assumption) (by assumption) (by assumption) (by assumption) (by assumption) zht)) (by assumption) (by assumption) (by assumption) (by assumption) (by assumption) (by assumption) (by assumption) (by assumption) (by assumption)
end

-- part Ctr3
theorem my_fdiv {prog : Program} {w : World} {A : Around} {E : Value → Shared → Prop} {s : Shared} {a b : Int} {t u : Tok} {Q : Value → Shared → Prop} (hb : 0 < b) (hb' : b < 1000000) (ha : 0 ≤ a) (h : ∀ (r : Int) (t' : Tok) (tk : Nat), Is r (a / b) → 0 ≤ r → r ≤ a → Q (.int r t') { s with toks := tk }) :
    wpAny (model prog w) A (binaryOp .FloorDiv (.int a t) (.int b u)) Q E s := by
  refine floordiv_int (by omega) ?_ (Or.inl (PyProof.noPylong_small (by omega)))
  rw [Int.fdiv_eq_ediv_of_nonneg _ (by omega)]
  exact h _ _ _ rfl (Int.ediv_nonneg ha (by omega)) (Int.ediv_le_self _ ha)
local macro_rules | `(tactic| walk_at "binaryOp FloorDiv int int") => `(tactic| (k_here; (with_reducible refine my_fdiv ?mha ?mhb ?mhc ?_); (case mha => omega); (case mhb => omega); (case mhc => omega); intro r' t' k' e' l' u'))
section
variable {w : World} {loose : List Str} {mean : ExcName → Option Value} {mg mb : Str → Option Value} {dp un : Nat} {gd : Option (List Code)} {cn : Str} {cs : Scope} {a : Addr} {ccd : Value} {cl : List (Str × Addr)} {outer : List Env} {A₀ : Around} {base h₀ : Heap} {L : Addr} {mm : Str → Option Value} {news : List (Addr × Obj)} {s : Shared} {Q E : Value → Shared → Prop}
theorem inv_spec {n : Nat} {z : Int} {t1 t2 : Tok}
    (zB : Below A₀ base outer h₀) (zF : Fr h₀ L s.heap mm) (zX : (hd.heap_39 w.params).In h₀) (zN : News h₀ L s.heap news) (zT : Top hd.view_39 loose mean mg mb h₀) (zhk : cs.kind = .function) (zhd : dp + 20 < recursionLimit) (zhu : un + 80 < cLine)
    (zhn : n ∈ primes) (zhz : 0 < z ∧ z < n)
    (zhret : ∀ r t h' tk', (z * r) % n = 1 → 0 ≤ r → r < n → Fr h₀ L h' mm → News h₀ L h' news → Q (.int r t) { s with heap := h', toks := tk' }) :
    wpAny (model PySem.Challenge.rw_bw0035_01.row.prog w) (ktrTop dp un gd cn cs L a ccd cl outer) (call (.ref 21) [.int z t1, .int (n : Int) t2]) Q E s := by
  revert zX; k_fill; intro zX
  have hn7 := (pr_pos zhn).1
  have hn97 := (pr_pos zhn).2
  refine wpAny_call ?_
  k_dflt ktr_enter
  k_with "exec While Compare cons nil" => k_while (fun _ lm hm low high => (0 ≤ low ∧ low < high ∧ high ≤ 97) ∧ EInv n z lm hm low high) (fun _ _ _ low _ => low.toNat) "lm" "hm" "low" "high"
  k_with "state" => first | exact E_start (by assumption) (by omega) (by omega) (by assumption) | exact E_step (by assumption) (by omega) (by omega) (by omega) (by assumption)
  k_with "measure" => (have := E_step (by assumption) (by omega) (by omega) (by omega) (by assumption); omega)
  k_steps
  all_goals first | (exfalso; omega) | skip
  exact zhret _ _ _ _ (E_end zhn (by first | assumption | exact And.right (by assumption)) (by omega) (by omega) (by assumption)) (by omega) (by omega) (by assumption) (drop2 (by assumption))
end

-- part Ctr4
theorem Z_pos {n : Nat} {m t x y z : Int} (r : RepJ n m t x y z) (h : 0 ≤ z) : 0 < z := by
  rcases r with ⟨_, _, _, rfl⟩ | r
  · omega
  · have : z ≠ 0 := fun e => r.hz (by rw [e]; exact ph_zero)
    omega
theorem fx {n : Nat} (hn : n ∈ primes) {m t x y z i r : Int} (h0 : 0 ≤ t ∧ t < n) (h : RepJ n m t x y z) (hi : (z * i) % n = 1) (hr : Is r (x * i^2 % n)) : r = qx n m t := hr.trans (pt_of_rep hn h0.1 h0.2 h hi).1
theorem fy {n : Nat} (hn : n ∈ primes) {m t x y z i r : Int} (h0 : 0 ≤ t ∧ t < n) (h : RepJ n m t x y z) (hi : (z * i) % n = 1) (hr : Is r (y * i^3 % n)) : r = qy n m t := hr.trans (pt_of_rep hn h0.1 h0.2 h hi).2
local macro_rules | `(tactic| walk_at "call ref") => `(tactic| (k_here; (with_reducible show wpAny _ _ (call (Value.ref 21) _) _ _ _); (refine' inv_spec ?k1 ?k2 ?k3 ?k4 ?k5 ?kK ?kd ?ku ?kn ?kz ?_); (case k1 => k_asm); (case k2 => k_asm); (case k3 => k_asm); (case k4 => k_asm); (case k5 => k_asm); (case kK => first | exact rfl | assumption); (case kd => ktr_room); (case ku => ktr_units); (case kn => assumption); (case kz => omega); intro r9 t9 h9 tk9 i9 ra9 rb9 F9 N9; (try dsimp only); (try k_fold)))
section
variable {w : World} {loose : List Str} {mean : ExcName → Option Value} {mg mb : Str → Option Value} {dp un : Nat} {gd : Option (List Code)} {cn : Str} {cs : Scope} {a : Addr} {ccd : Value} {cl : List (Str × Addr)} {outer : List Env} {A₀ : Around} {base h₀ : Heap} {L : Addr} {mm : Str → Option Value} {news : List (Addr × Obj)} {s : Shared} {Q E : Value → Shared → Prop}
theorem from_spec {n : Nat} {m t x y z A N' B g1 g2 : Int} {t1 t2 t3 u1 u2 u3 u4 u5 u6 : Tok} {pa ca : Addr} {n1 n2 : Nat}
    (zB : Below A₀ base outer h₀) (zF : Fr h₀ L s.heap mm) (zX : (hd.heap_39 w.params).In h₀) (zN : News h₀ L s.heap news) (zT : Top hd.view_39 loose mean mg mb h₀) (zhk : cs.kind = .function) (zhd : dp + 40 < recursionLimit) (zhu : un + 160 < cLine)
    (zhp : (pa, ({ cls := .type "tuple", data := .seq #[.int x t1, .int y t2, .int z t3] n1 } : Obj)) ∈ news)
    (zhc : (ca, ({ cls := .type "tuple", data := .seq #[.int (n : Int) u1, .int N' u2, .int A u3, .int B u4, .int g1 u5, .int g2 u6] n2 } : Obj)) ∈ news)
    (zhn : n ∈ primes) (zr : RepJ n m t x y z) (zht : 0 ≤ t ∧ t < n) (zhx : 0 ≤ x ∧ x < n) (zhy : 0 ≤ y ∧ y < n) (zhz : 0 ≤ z ∧ z < n)
    (zhret : ∀ D X Y t1 t2 h' tk', X = qx n m t → Y = qy n m t → Fr h₀ L h' mm → News h₀ L h' ((D, ({ cls := .type "tuple", data := .seq #[.int X t1, .int Y t2] } : Obj)) :: news) → (∀ q ∈ news, q.1 < D) → Q (.ref D) { s with heap := h', toks := tk' }) :
    wpAny (model PySem.Challenge.rw_bw0035_01.row.prog w) (ktrTop dp un gd cn cs L a ccd cl outer) (call (.ref 49) [.ref pa, .ref ca]) Q E s := by
  revert zX; k_fill; intro zX
  have hn7 := (pr_pos zhn).1
  have hn97 := (pr_pos zhn).2
  have hz0 := Z_pos zr zhz.1
  refine wpAny_call ?_
  k_dflt ktr_enter
  k_steps
  all_goals first | (exfalso; omega) | skip
  exact zhret _ _ _ _ _ _ _ (fx zhn zht zr (by assumption) (by assumption)) (fy zhn zht zr (by assumption) (by assumption)) (by assumption) (by assumption) (by assumption)
end

-- part Ctr5
local macro_rules | `(tactic| k_mem) => `(tactic| k_dflt assumption)
section
variable {w : World} {loose : List Str} {mean : ExcName → Option Value} {mg mb : Str → Option Value} {dp un : Nat} {gd : Option (List Code)} {cn : Str} {cs : Scope} {a : Addr} {ccd : Value} {cl : List (Str × Addr)} {outer : List Env} {A₀ : Around} {base h₀ : Heap} {L : Addr} {mm : Str → Option Value} {news : List (Addr × Obj)} {s : Shared} {Q E : Value → Shared → Prop}
theorem toj_spec {x y : Int} {t1 t2 : Tok} {pa : Addr} {n1 : Nat}
    (zB : Below A₀ base outer h₀) (zF : Fr h₀ L s.heap mm) (zX : (hd.heap_39 w.params).In h₀) (zN : News h₀ L s.heap news) (zT : Top hd.view_39 loose mean mg mb h₀) (zhk : cs.kind = .function) (zhd : dp + 20 < recursionLimit) (zhu : un + 80 < cLine)
    (zhp : (pa, ({ cls := .type "tuple", data := .seq #[.int x t1, .int y t2] n1 } : Obj)) ∈ news)
    (zhret : ∀ D t1 t2 t3 h' tk', Fr h₀ L h' mm → News h₀ L h' ((D, ({ cls := .type "tuple", data := .seq #[.int x t1, .int y t2, .int 1 t3] } : Obj)) :: news) → (∀ q ∈ news, q.1 < D) → Q (.ref D) { s with heap := h', toks := tk' }) :
    wpAny (model PySem.Challenge.rw_bw0035_01.row.prog w) (ktrTop dp un gd cn cs L a ccd cl outer) (call (.ref 28) [.ref pa]) Q E s := by
  revert zX; k_fill; intro zX
  refine wpAny_call ?_
  k_dflt ktr_enter
  k_steps
  exact zhret _ _ _ _ _ _ (by assumption) (by assumption) (by assumption)
end
local macro_rules | `(tactic| walk_at "call ref") => `(tactic| (k_here; (with_reducible show wpAny _ _ (call (Value.ref 28) _) _ _ _); (refine' toj_spec ?k1 ?k2 ?k3 ?k4 ?k5 ?kK ?kd ?ku ?kp ?_); (case k1 => k_asm); (case k2 => k_asm); (case k3 => k_asm); (case k4 => k_asm); (case k5 => k_asm); (case kK => first | exact rfl | assumption); (case kd => ktr_room); (case ku => ktr_units); (case kp => k_mem); intro D9 ta9 tb9 tc9 h9 tk9 F9 N9 l9; (try dsimp only); (try k_fold)))
local macro_rules | `(tactic| walk_at "call ref") => `(tactic| (k_here; (with_reducible show wpAny _ _ (call (Value.ref 42) _) _ _ _); (refine' jadd_spec ?k1 ?k2 ?k3 ?k4 ?k5 ?kK ?kd ?ku ?kp ?kq ?kc ?kn ?km ?ke ?kf ?kg ?kh ?kr ?ks ?kA ?kt ?kx ?ky ?kz ?kxx ?kyy ?kzz ?kb ?_); (case k1 => k_asm); (case k2 => k_asm); (case k3 => k_asm); (case k4 => k_asm); (case k5 => k_asm); (case kK => first | exact rfl | assumption); (case kd => ktr_room); (case ku => ktr_units); (case kp => k_mem); (case kq => k_mem); (case kc => k_mem); (case kn => assumption); (case kr => assumption); (case ks => assumption); (case kA => assumption); (case kt => assumption); (case km => assumption); (case ke => assumption); (case kf => assumption); (case kg => assumption); (case kh => assumption); (case kx => assumption); (case ky => assumption); (case kz => omega); (case kxx => assumption); (case kyy => assumption); (case kzz => omega); (case kb => assumption); intro D9 X9 Y9 Z9 ta9 tb9 tc9 h9 tk9 r9 xa9 xb9 ya9 yb9 za9 zb9 F9 N9 l9; (try dsimp only); (try k_fold)))
local macro_rules | `(tactic| walk_at "call ref") => `(tactic| (k_here; (with_reducible show wpAny _ _ (call (Value.ref 49) _) _ _ _); (refine' from_spec ?k1 ?k2 ?k3 ?k4 ?k5 ?kK ?kd ?ku ?kp ?kc ?kn ?kr ?kt ?kx ?ky ?kz ?_); (case k1 => k_asm); (case k2 => k_asm); (case k3 => k_asm); (case k4 => k_asm); (case k5 => k_asm); (case kK => first | exact rfl | assumption); (case kd => ktr_room); (case ku => ktr_units); (case kp => k_mem); (case kc => k_mem); (case kn => assumption); (case kr => assumption); (case kt => omega); (case kx => omega); (case ky => omega); (case kz => omega); intro D9 X9 Y9 ta9 tb9 h9 tk9 ex9 ey9 F9 N9 l9; (try dsimp only); (try k_fold)))
section
variable {w : World} {loose : List Str} {mean : ExcName → Option Value} {mg mb : Str → Option Value} {dp un : Nat} {gd : Option (List Code)} {cn : Str} {cs : Scope} {a : Addr} {ccd : Value} {cl : List (Str × Addr)} {outer : List Env} {A₀ : Around} {base h₀ : Heap} {L : Addr} {mm : Str → Option Value} {news : List (Addr × Obj)} {s : Shared} {Q E : Value → Shared → Prop}
theorem add_spec {n : Nat} {m u v t x1 y1 x2 y2 A N' B g1 g2 : Int} {t1 t2 s1 s2 u1 u2 u3 u4 u5 u6 : Tok} {pa qa ca : Addr} {n1 n2 n3 : Nat}
    (zB : Below A₀ base outer h₀) (zF : Fr h₀ L s.heap mm) (zX : (hd.heap_39 w.params).In h₀) (zN : News h₀ L s.heap news) (zT : Top hd.view_39 loose mean mg mb h₀) (zhk : cs.kind = .function) (zhd : dp + 60 < recursionLimit) (zhu : un + 240 < cLine)
    (zhp : (pa, ({ cls := .type "tuple", data := .seq #[.int x1 t1, .int y1 t2] n1 } : Obj)) ∈ news)
    (zhq : (qa, ({ cls := .type "tuple", data := .seq #[.int x2 s1, .int y2 s2] n3 } : Obj)) ∈ news)
    (zhc : (ca, ({ cls := .type "tuple", data := .seq #[.int (n : Int) u1, .int N' u2, .int A u3, .int B u4, .int g1 u5, .int g2 u6] n2 } : Obj)) ∈ news)
    (zhn : n ∈ primes) (zhm : ph n m ≠ 0) (zhu0 : ph n u ≠ 0) (zhu1 : ph n u ≠ -1) (zhv0 : ph n v ≠ 0) (zhv1 : ph n v ≠ -1) (zr1 : Rep n m u x1 y1 1) (zr2 : Rep n m v x2 y2 1) (zhA : Cv n m A) (zht : ph n t = ph n u * ph n v)
    (zhx : 0 ≤ x1 ∧ x1 < n) (zhy : 0 ≤ y1 ∧ y1 < n) (zhx' : 0 ≤ x2 ∧ x2 < n) (zhy' : 0 ≤ y2 ∧ y2 < n) (zhA' : 0 ≤ A ∧ A < n) (zht' : 0 ≤ t ∧ t < n)
    (zhret : ∀ D X Y t1 t2 h' tk', X = qx n m t → Y = qy n m t → Fr h₀ L h' mm → News h₀ L h' ((D, ({ cls := .type "tuple", data := .seq #[.int X t1, .int Y t2] } : Obj)) :: news) → (∀ q ∈ news, q.1 < D) → Q (.ref D) { s with heap := h', toks := tk' }) :
    wpAny (model PySem.Challenge.rw_bw0035_01.row.prog w) (ktrTop dp un gd cn cs L a ccd cl outer) (call (.ref 56) [.ref pa, .ref qa, .ref ca]) Q E s := by
  revert zX; k_fill; intro zX
  have hn7 := (pr_pos zhn).1
  have hn97 := (pr_pos zhn).2
  refine wpAny_call ?_
  k_dflt ktr_enter
  k_steps
  all_goals first | (exfalso; omega) | skip
  exact zhret _ _ _ _ _ _ _ (by assumption) (by assumption) (by assumption) (keep1_3 (by assumption)) (lt_tail (lt_tail (lt_tail (by assumption))))
end

-- part Ctr6
section
variable {w : World} {loose : List Str} {mean : ExcName → Option Value} {mg mb : Str → Option Value} {dp un : Nat} {gd : Option (List Code)} {cn : Str} {cs : Scope} {a : Addr} {ccd : Value} {cl : List (Str × Addr)} {outer : List Env} {A₀ : Around} {base h₀ : Heap} {L : Addr} {mm : Str → Option Value} {news : List (Addr × Obj)} {s : Shared} {Q E : Value → Shared → Prop}
theorem at_spec {l : Addr} {vs : List Value} {ns : List Int} {k : Int} {t1 : Tok}
    (zB : Below A₀ base outer h₀) (zF : Fr h₀ L s.heap mm) (zX : (hd.heap_39 w.params).In h₀) (zN : News h₀ L s.heap news) (zT : Top hd.view_39 loose mean mg mb h₀) (zhk : cs.kind = .function) (zhd : dp + 20 < recursionLimit) (zhu : un + 80 < cLine)
    (zhl : h₀.IsList l vs.toArray) (zhi : IntsAre vs ns) (zhn : ns.length ≤ 63) (zhk0 : 0 ≤ k ∧ k < 1000)
    (zhret : ∀ r t h' tk', Fr h₀ L h' mm → News h₀ L h' news → Q (.int r t) { s with heap := h', toks := tk' }) :
    wpAny (model PySem.Challenge.rw_bw0035_01.row.prog w) (ktrTop dp un gd cn cs L a ccd cl outer) (call (.ref 70) [.ref l, .int k t1]) Q E s := by
  revert zX; k_fill; intro zX
  refine wpAny_call ?_
  k_dflt ktr_enter
  rename Fr h₀ L _ mm => FG1
  have hl1 := Fr.lst FG1 zhl
  k_steps
  all_goals first | (exfalso; omega) | skip
  all_goals exact zhret _ _ _ _ (by assumption) (by assumption)
end

-- part Ctr7
theorem my_pw {prog : Program} {w : World} {A : Around} {E : Value → Shared → Prop} {s : Shared} {a b : Int} {t u v : Tok} {Q : Value → Shared → Prop} {n : Nat} (hn : n ∈ primes) (hb : b = (n : Int) - 2) (h : ∀ (t' : Tok) (tk : Nat), 0 ≤ iv n a → iv n a < n → Q (.int (iv n a) t') { s with toks := tk }) :
    wpAny (model prog w) A (call (.builtin "pow") [.int a t, .int b u, .int (n : Int) v]) Q E s :=
  my_powmod (pr_pos hn).1 hb fun t' tk => h t' tk (iv_bd hn a).1 (iv_bd hn a).2
local macro_rules | `(tactic| walk_at "call builtin:pow") => `(tactic| (k_here; (with_reducible refine my_pw ?mhb ?mhc ?_); (case mhb => assumption); (case mhc => omega); intro t' k' l' u'))
section
variable {w : World} {loose : List Str} {mean : ExcName → Option Value} {mg mb : Str → Option Value} {dp un : Nat} {gd : Option (List Code)} {cn : Str} {cs : Scope} {a : Addr} {ccd : Value} {cl : List (Str × Addr)} {outer : List Env} {A₀ : Around} {base h₀ : Heap} {L : Addr} {mm : Str → Option Value} {news : List (Addr × Obj)} {s : Shared} {Q E : Value → Shared → Prop}
theorem point_spec {n : Nat} {u m k : Int} {t1 t2 t3 t4 : Tok}
    (zB : Below A₀ base outer h₀) (zF : Fr h₀ L s.heap mm) (zX : (hd.heap_39 w.params).In h₀) (zN : News h₀ L s.heap news) (zT : Top hd.view_39 loose mean mg mb h₀) (zhk : cs.kind = .function) (zhd : dp + 20 < recursionLimit) (zhu : un + 80 < cLine)
    (zhn : n ∈ primes) (zhkk : k = kk n m) (zhm : 0 < m ∧ m < n) (zhu : 0 ≤ u ∧ u < n)
    (zhret : ∀ D X Y t1 t2 h' tk', X = qx n m u → Y = qy n m u → Fr h₀ L h' mm → News h₀ L h' ((D, ({ cls := .type "tuple", data := .seq #[.int X t1, .int Y t2] } : Obj)) :: news) → (∀ q ∈ news, q.1 < D) → Q (.ref D) { s with heap := h', toks := tk' }) :
    wpAny (model PySem.Challenge.rw_bw0035_01.row.prog w) (ktrTop dp un gd cn cs L a ccd cl outer) (call (.ref 77) [.int u t1, .int m t2, .int k t3, .int (n : Int) t4]) Q E s := by
  revert zX; k_fill; intro zX
  have hn7 := (pr_pos zhn).1
  have hn97 := (pr_pos zhn).2
  have hkr := kk_rng zhn m
  rw [← zhkk] at hkr
  refine wpAny_call ?_
  k_dflt ktr_enter
  k_steps
  all_goals first | (exfalso; omega) | skip
  · exact zhret _ _ _ _ _ _ _ (pt_one m (by assumption)).1 (pt_one m (by assumption)).2 (by assumption) (by assumption) (by assumption)
  · exact zhret _ _ _ _ _ _ _ (pt_end (by assumption) zhkk (by assumption) (by assumption) (by assumption)).1 (pt_end (by assumption) zhkk (by assumption) (by assumption) (by assumption)).2 (by assumption) (by assumption) (by assumption)
theorem scaled_spec {n : Nat} {x y z : Int} {t1 t2 t3 t4 : Tok} {pa : Addr} {n1 : Nat}
    (zB : Below A₀ base outer h₀) (zF : Fr h₀ L s.heap mm) (zX : (hd.heap_39 w.params).In h₀) (zN : News h₀ L s.heap news) (zT : Top hd.view_39 loose mean mg mb h₀) (zhk : cs.kind = .function) (zhd : dp + 20 < recursionLimit) (zhu : un + 80 < cLine)
    (zhp : (pa, ({ cls := .type "tuple", data := .seq #[.int x t1, .int y t2] n1 } : Obj)) ∈ news)
    (zhn : n ∈ primes) (zhz : 0 < z ∧ z < n)
    (zhret : ∀ D X Y t1 t2 t3 h' tk', Is X (x * z * z % n) → Is Y (y * z * z * z % n) → 0 ≤ X → X < n → 0 ≤ Y → Y < n → Fr h₀ L h' mm → News h₀ L h' ((D, ({ cls := .type "tuple", data := .seq #[.int X t1, .int Y t2, .int z t3] } : Obj)) :: news) → (∀ q ∈ news, q.1 < D) → Q (.ref D) { s with heap := h', toks := tk' }) :
    wpAny (model PySem.Challenge.rw_bw0035_01.row.prog w) (ktrTop dp un gd cn cs L a ccd cl outer) (call (.ref 91) [.ref pa, .int z t3, .int (n : Int) t4]) Q E s := by
  revert zX; k_fill; intro zX
  have hn7 := (pr_pos zhn).1
  have hn97 := (pr_pos zhn).2
  refine wpAny_call ?_
  k_dflt ktr_enter
  k_steps
  all_goals first | (exfalso; omega) | skip
  exact zhret _ _ _ _ _ _ _ _ (by assumption) (by assumption) (by assumption) (by assumption) (by assumption) (by assumption) (by assumption) (by assumption) (by assumption)
theorem number_spec {n : Nat} {x y m k t : Int} {t1 t2 t3 t4 t5 : Tok} {pa : Addr} {n1 : Nat}
    (zB : Below A₀ base outer h₀) (zF : Fr h₀ L s.heap mm) (zX : (hd.heap_39 w.params).In h₀) (zN : News h₀ L s.heap news) (zT : Top hd.view_39 loose mean mg mb h₀) (zhk : cs.kind = .function) (zhd : dp + 20 < recursionLimit) (zhu : un + 80 < cLine)
    (zhp : (pa, ({ cls := .type "tuple", data := .seq #[.int x t1, .int y t2] n1 } : Obj)) ∈ news)
    (zhn : n ∈ primes) (zhx : x = qx n m t) (zhy : y = qy n m t) (zhkk : k = kk n m) (zhm : 0 < m ∧ m < n) (zht : 0 < t ∧ t < n)
    (zhret : ∀ r t1 h' tk', r = t → Fr h₀ L h' mm → News h₀ L h' news → Q (.int r t1) { s with heap := h', toks := tk' }) :
    wpAny (model PySem.Challenge.rw_bw0035_01.row.prog w) (ktrTop dp un gd cn cs L a ccd cl outer) (call (.ref 84) [.ref pa, .int m t3, .int k t4, .int (n : Int) t5]) Q E s := by
  revert zX; k_fill; intro zX
  have hn7 := (pr_pos zhn).1
  have hn97 := (pr_pos zhn).2
  have hkr := kk_rng zhn m
  rw [← zhkk] at hkr
  have hxr := qx_rng zhn m t
  rw [← zhx] at hxr
  have hyr := qy_rng zhn m t
  rw [← zhy] at hyr
  refine wpAny_call ?_
  k_dflt ktr_enter
  k_steps
  all_goals first | (exfalso; omega) | skip
  · exact zhret _ _ _ _ (pt00' zhn zhm zht zhx zhy (by assumption)) (by assumption) (drop1 (by assumption))
  · exact zhret _ _ _ _ (num_end zhn zhm zht zhx zhy zhkk (nb00 (by assumption)) (by assumption) (by assumption)) (by assumption) (drop1 (by assumption))
end

-- part LawA
def KStop (P : Prop) : Prop := P
section
variable {prog : Program} {w : World} {A : Around} {E : Value → Shared → Prop} {s : Shared} {a b : Int} {t u : Tok} {Q : Value → Shared → Prop}
theorem my_modT (hb : 0 < b) (h : ∀ (t' : Tok) (tk : Nat), 0 ≤ a % b → a % b < b → Q (.int (a % b) t') { s with toks := tk }) :
    wpAny (model prog w) A (binaryOp .Mod (.int a t) (.int b u)) Q E s := my_mod hb fun r t' tk e l l' => by
  have e : r = a % b := e
  subst e
  exact h t' tk l l'
theorem my_eqS (h : Q (.bool true) s) : wpAny (model prog w) A (compareOp .Eq (.int a t) (.int a u)) Q E s := eq_int (by rw [beq_self_eq_true]; exact h)
end
theorem my_menu {prog : Program} {w : World} {A : Around} {E : Value → Shared → Prop} {s : Shared} {value slice : PySem.Expr} {h₀ : Heap} {L D : Addr} {news : List (Addr × Obj)} {c : Nat} {k : Int} {u t0 t1 t2 t3 t4 t5 t6 t7 t8 t9 : Tok} {Q : Value → Shared → Prop} (N : News h₀ L s.heap news)
    (hm : (D, listOf #[.int 7 t0, .int 11 t1, .int 13 t2, .int 17 t3, .int 19 t4, .int 23 t5, .int 31 t6, .int 43 t7, .int 61 t8, .int 97 t9] c) ∈ news) (h0 : 0 ≤ k) (h1 : k < 10) (h : ∀ (n : Nat) (t : Tok), n ∈ primes → 7 ≤ n → n ≤ 97 → Q (.int (n : Int) t) s)
    (hs : subscripted slice false (.ref D) (.int k u) = operate [.ref D, .int k u] (getItem (.ref D) (.int k u)) := by with_unfolding_all rfl) : wpAny (model prog w) A (subscriptTail value slice (.ref D) (.int k u)) Q E s := by
  have hl := News.isList N hm
  refine tail_any hl.typeIs slot_list_getitem.lookup ?_ hs
  have hk : k = 0 ∨ k = 1 ∨ k = 2 ∨ k = 3 ∨ k = 4 ∨ k = 5 ∨ k = 6 ∨ k = 7 ∨ k = 8 ∨ k = 9 := by omega
  rcases hk with rfl | rfl | rfl | rfl | rfl | rfl | rfl | rfl | rfl | rfl
  · exact wpAny_getItem_list hl (by omega) (by omega) (x := .int 7 t0) (by rfl) (h 7 t0 (by decide) (by decide) (by decide))
  · exact wpAny_getItem_list hl (by omega) (by omega) (x := .int 11 t1) (by rfl) (h 11 t1 (by decide) (by decide) (by decide))
  · exact wpAny_getItem_list hl (by omega) (by omega) (x := .int 13 t2) (by rfl) (h 13 t2 (by decide) (by decide) (by decide))
  · exact wpAny_getItem_list hl (by omega) (by omega) (x := .int 17 t3) (by rfl) (h 17 t3 (by decide) (by decide) (by decide))
  · exact wpAny_getItem_list hl (by omega) (by omega) (x := .int 19 t4) (by rfl) (h 19 t4 (by decide) (by decide) (by decide))
  · exact wpAny_getItem_list hl (by omega) (by omega) (x := .int 23 t5) (by rfl) (h 23 t5 (by decide) (by decide) (by decide))
  · exact wpAny_getItem_list hl (by omega) (by omega) (x := .int 31 t6) (by rfl) (h 31 t6 (by decide) (by decide) (by decide))
  · exact wpAny_getItem_list hl (by omega) (by omega) (x := .int 43 t7) (by rfl) (h 43 t7 (by decide) (by decide) (by decide))
  · exact wpAny_getItem_list hl (by omega) (by omega) (x := .int 61 t8) (by rfl) (h 61 t8 (by decide) (by decide) (by decide))
  · exact wpAny_getItem_list hl (by omega) (by omega) (x := .int 97 t9) (by rfl) (h 97 t9 (by decide) (by decide) (by decide))
local macro_rules | `(tactic| walk_at "binaryOp Mod int int") => `(tactic| (k_here; (with_reducible show wpAny _ _ (binaryOp Operator.Mod (Value.int (_ * (2 + _)) _) (Value.int _ _)) _ _ _); (with_reducible refine my_modT ?mhb ?_); (case mhb => omega); intro t' k' l' u'))
local macro_rules | `(tactic| walk_at "binaryOp Mod int int") => `(tactic| (k_here; (with_reducible show wpAny _ _ (binaryOp Operator.Mod (Value.int ((2 + _) * iv _ _) _) (Value.int _ _)) _ _ _); (with_reducible refine my_modT ?mhb ?_); (case mhb => omega); intro t' k' l' u'))
local macro_rules | `(tactic| walk_at "compareOp Eq int int") => `(tactic| (k_here; (with_reducible refine my_eqS ?_)))
local macro_rules | `(tactic| walk_at "subscriptTail") => `(tactic| (k_here; (with_reducible show wpAny _ _ (subscriptTail _ _ (Value.ref _) (Value.int _ _)) _ _ _); k_dflt (refine' my_menu ?k1 ?k2 ?k3 ?k4 ?_ ?k5; (case k1 => k_asm); (case k2 => k_mem); (case k3 => omega); (case k4 => omega); (case k5 => with_unfolding_all rfl)); intro n' t' hn' hn7' hn97'))
local macro_rules | `(tactic| walk_at "eval Call") => `(tactic| (k_here; k_dflt (refine Call_ ?_)))
theorem stop {P : Prop} (h : KStop P) : P := h
local macro_rules | `(tactic| walk_at "call ref") => `(tactic| (k_here; (with_reducible show wpAny _ _ (call (Value.ref 35) _) _ _ _); k_dflt (refine' stop ?_)))
local macro_rules | `(tactic| walk_at "call ref") => `(tactic| (k_here; (with_reducible show wpAny _ _ (call (Value.ref 42) _) _ _ _); k_dflt (refine' stop ?_)))
local macro_rules | `(tactic| walk_at "call ref") => `(tactic| (k_here; (with_reducible show wpAny _ _ (call (Value.ref 49) _) _ _ _); k_dflt (refine' stop ?_)))
local macro_rules | `(tactic| walk_at "call ref") => `(tactic| (k_here; (with_reducible show wpAny _ _ (call (Value.ref 56) _) _ _ _); k_dflt (refine' stop ?_)))
local macro_rules | `(tactic| walk_at "call ref") => `(tactic| (k_here; (with_reducible show wpAny _ _ (call (Value.ref 84) _) _ _ _); k_dflt (refine' stop ?_)))
local macro_rules | `(tactic| walk_at "call ref") => `(tactic| (k_here; (with_reducible show wpAny _ _ (call (Value.ref 91) _) _ _ _); k_dflt (refine' stop ?_)))
local macro_rules | `(tactic| walk_at "call ref") => `(tactic| (k_here; (with_reducible show wpAny _ _ (call (Value.ref 70) _) _ _ _); k_dflt (refine' stop ?_)))
local macro_rules | `(tactic| walk_at "call ref") => `(tactic| (k_here; (with_reducible show wpAny _ _ (call (Value.ref 77) _) _ _ _); k_dflt (refine' stop ?_)))
local macro_rules | `(tactic| walk_at "call ref") => `(tactic| (k_here; (with_reducible show wpAny _ _ (call (Value.ref 70) _) _ _ _); k_dflt ((refine' at_spec ?k1 ?k2 ?k3 ?k4 ?k5 ?kK ?kd ?ku ?kl ?ki ?kn ?kz ?_); (case k1 => k_asm); (case k2 => k_asm); (case k3 => k_asm); (case k4 => k_asm); (case k5 => k_asm); (case kK => first | exact rfl | assumption); (case kd => ktr_room); (case ku => ktr_units); (case kl => assumption); (case ki => assumption); (case kn => omega); (case kz => omega); intro r9 t9 h9 tk9 F9 N9; (try dsimp only); (try k_fold))))
local macro_rules | `(tactic| walk_at "call ref") => `(tactic| (k_here; (with_reducible show wpAny _ _ (call (Value.ref 77) _) _ _ _); k_dflt ((refine' point_spec ?k1 ?k2 ?k3 ?k4 ?k5 ?kK ?kd ?ku ?kn ?kl ?km ?kz ?_); (case k1 => k_asm); (case k2 => k_asm); (case k3 => k_asm); (case k4 => k_asm); (case k5 => k_asm); (case kK => first | exact rfl | assumption); (case kd => ktr_room); (case ku => ktr_units); (case kn => assumption); (case kl => first | assumption | exact kk_is (by assumption)); (case km => omega); (case kz => omega); intro D9 X9 Y9 ta9 tb9 h9 tk9 eX9 eY9 F9 N9 l9; (subst eX9 eY9); (try dsimp only); (try k_fold))))
local macro_rules | `(tactic| walk_at "call ref") => `(tactic| (k_here; (with_reducible show wpAny _ _ (call (Value.ref 56) _) _ _ _); k_dflt ((refine' add_spec ?k1 ?k2 ?k3 ?k4 ?k5 ?kK ?kd ?ku ?kp ?kq ?kc ?kn ?km ?ke ?kf ?kg ?kh ?kr ?ks ?kA ?kt ?kx ?ky ?kxx ?kyy ?kb ?ktt ?_); (case k1 => k_asm); (case k2 => k_asm); (case k3 => k_asm); (case k4 => k_asm); (case k5 => k_asm); (case kK => first | exact rfl | assumption); (case kd => ktr_room); (case ku => ktr_units); (case kp => k_mem); (case kq => k_mem); (case kc => k_mem); (case kn => assumption); (case kr => first | exact rp (by assumption) (by first | omega | exact pt_z (by assumption) (by assumption) (by omega) (by omega))); (case ks => first | exact rp (by assumption) (by first | omega | exact pt_z (by assumption) (by assumption) (by omega) (by omega)) | exact rn (by assumption) (by omega) (by omega)); (case kA => exact cv_is (by assumption) (by assumption) (kk_is (by assumption))); (case km => exact m_ne (by assumption) (by omega)); (case ke => exact u0_ne (by assumption) (by first | omega | exact pt_z (by assumption) (by assumption) (by omega) (by omega))); (case kf => exact uM_ne (by assumption) (by first | omega | exact pt_z (by assumption) (by assumption) (by omega) (by omega))); (case kg => first | exact u0_ne (by assumption) (by omega) | exact u0_ne (by assumption) (iv_rng (by assumption) (by omega) (by omega))); (case kh => first | exact uM_ne (by assumption) (by omega) | exact uM_ne (by assumption) (iv_rng (by assumption) (by omega) (by omega))); (case kt => exact prod_ph (by assumption) _ _); (case kx => exact qx_rng (by assumption) _ _); (case ky => exact qy_rng (by assumption) _ _); (case kxx => exact qx_rng (by assumption) _ _); (case kyy => first | exact qy_rng (by assumption) _ _ | exact ny_rng (by assumption) (by omega) (by omega)); (case kb => omega); (case ktt => exact rng (by assumption) _); intro D9 X9 Y9 ta9 tb9 h9 tk9 eX9 eY9 F9 N9 l9; (subst eX9 eY9); (try dsimp only); (try k_fold))))
local macro_rules | `(tactic| walk_at "call ref") => `(tactic| (k_here; (with_reducible show wpAny _ _ (call (Value.ref 91) _) _ _ _); k_dflt ((refine' scaled_spec ?k1 ?k2 ?k3 ?k4 ?k5 ?kK ?kd ?ku ?kp ?kn ?kz ?_); (case k1 => k_asm); (case k2 => k_asm); (case k3 => k_asm); (case k4 => k_asm); (case k5 => k_asm); (case kK => first | exact rfl | assumption); (case kd => ktr_room); (case ku => ktr_units); (case kp => k_mem); (case kn => assumption); (case kz => omega); intro D9 X9 Y9 ta9 tb9 tc9 h9 tk9 eX9 eY9 xa9 xb9 ya9 yb9 F9 N9 l9; (try dsimp only); (try k_fold))))
local macro_rules | `(tactic| walk_at "call ref") => `(tactic| (k_here; (with_reducible show wpAny _ _ (call (Value.ref 42) _) _ _ _); k_dflt ((refine' jadd_spec ?k1 ?k2 ?k3 ?k4 ?k5 ?kK ?kd ?ku ?kp ?kq ?kc ?kn ?km ?ke ?kf ?kg ?kh ?kr ?ks ?kA ?kt ?kx ?ky ?kz ?kxx ?kyy ?kzz ?kb ?_); (case k1 => k_asm); (case k2 => k_asm); (case k3 => k_asm); (case k4 => k_asm); (case k5 => k_asm); (case kK => first | exact rfl | assumption); (case kd => ktr_room); (case ku => ktr_units); (case kp => k_mem); (case kq => k_mem); (case kc => k_mem); (case kn => assumption); (case kr => exact rs (by assumption) (by assumption) (by assumption) (by omega) (by omega)); (case ks => exact rs (by assumption) (by assumption) (by assumption) (by omega) (by omega)); (case kA => exact cv_is (by assumption) (by assumption) (kk_is (by assumption))); (case km => exact m_ne (by assumption) (by omega)); (case ke => exact u0_ne (by assumption) (by omega)); (case kf => exact uM_ne (by assumption) (by omega)); (case kg => exact u0_ne (by assumption) (by omega)); (case kh => exact uM_ne (by assumption) (by omega)); (case kt => exact prod_ph (by assumption) _ _); (case kx => omega); (case ky => omega); (case kz => omega); (case kxx => omega); (case kyy => omega); (case kzz => omega); (case kb => omega); intro D9 X9 Y9 Z9 ta9 tb9 tc9 h9 tk9 r9 xa9 xb9 ya9 yb9 za9 zb9 F9 N9 l9; (try dsimp only); (try k_fold))))
local macro_rules | `(tactic| walk_at "call ref") => `(tactic| (k_here; (with_reducible show wpAny _ _ (call (Value.ref 35) _) _ _ _); k_dflt ((refine' dbl_spec ?k1 ?k2 ?k3 ?k4 ?k5 ?kK ?kd ?ku ?kp ?kc ?kn ?km ?ke ?kf ?kr ?kA ?kt ?kx ?ky ?kz ?kb ?_); (case k1 => k_asm); (case k2 => k_asm); (case k3 => k_asm); (case k4 => k_asm); (case k5 => k_asm); (case kK => first | exact rfl | assumption); (case kd => ktr_room); (case ku => ktr_units); (case kp => k_mem); (case kc => k_mem); (case kn => assumption); (case kr => exact rs (by assumption) (by assumption) (by assumption) (by omega) (by omega)); (case kA => exact cv_is (by assumption) (by assumption) (kk_is (by assumption))); (case km => exact m_ne (by assumption) (by omega)); (case ke => exact u0_ne (by assumption) (by omega)); (case kf => exact uM_ne (by assumption) (by omega)); (case kt => exact prod_ph (by assumption) _ _); (case kx => omega); (case ky => omega); (case kz => omega); (case kb => omega); intro D9 X9 Y9 Z9 ta9 tb9 tc9 h9 tk9 r9 xa9 xb9 ya9 yb9 za9 zb9 F9 N9 l9; (try dsimp only); (try k_fold))))
local macro_rules | `(tactic| walk_at "call ref") => `(tactic| (k_here; (with_reducible show wpAny _ _ (call (Value.ref 49) _) _ _ _); k_dflt ((refine' from_spec ?k1 ?k2 ?k3 ?k4 ?k5 ?kK ?kd ?ku ?kp ?kc ?kn ?kr ?kt ?kx ?ky ?kz ?_); (case k1 => k_asm); (case k2 => k_asm); (case k3 => k_asm); (case k4 => k_asm); (case k5 => k_asm); (case kK => first | exact rfl | assumption); (case kd => ktr_room); (case ku => ktr_units); (case kp => k_mem); (case kc => k_mem); (case kn => assumption); (case kr => first | assumption | exact Or.inr (by assumption)); (case kt => exact rng (by assumption) _); (case kx => omega); (case ky => omega); (case kz => omega); intro D9 X9 Y9 ta9 tb9 h9 tk9 eX9 eY9 F9 N9 l9; (subst eX9 eY9); (try dsimp only); (try k_fold))))
local macro_rules | `(tactic| walk_at "call ref") => `(tactic| (k_here; (with_reducible show wpAny _ _ (call (Value.ref 84) _) _ _ _); k_dflt ((refine' number_spec ?k1 ?k2 ?k3 ?k4 ?k5 ?kK ?kd ?ku ?kp ?kn ?kx ?ky ?kl ?km ?kt ?_); (case k1 => k_asm); (case k2 => k_asm); (case k3 => k_asm); (case k4 => k_asm); (case k5 => k_asm); (case kK => first | exact rfl | assumption); (case kd => ktr_room); (case ku => ktr_units); (case kp => k_mem); (case kn => assumption); (case kx => exact rfl); (case ky => exact rfl); (case kl => exact kk_is (by assumption)); (case km => omega); (case kt => exact tt_rng (by assumption) (by omega) (by omega)); intro r9 t9 h9 tk9 e9 F9 N9; (subst e9); (try dsimp only); (try k_fold))))
local macro_rules | `(tactic| walk_at "exec For Name Call cons nil") => `(tactic| (k_here; k_dflt ((rename Fr _ _ _ _ => lF'); (with_unfolding_all refine' For_invVF lF' ?k1 ?k2 ?_; (case k1 => exact rfl); (case k2 => exact rfl); k_whole))))
local macro_rules | `(tactic| walk_at "pyIter ref") => `(tactic| (k_here; (with_reducible show wpAny _ _ (pyIter (Value.ref _)) (fun it s₂ => LoopAtV _ _ _ _ _ _ _ _ _ it s₂) _ _); k_dflt (refine' stop ?_)))
local macro_rules | `(tactic| walk_at "pyIter ref") => `(tactic| (k_here; (with_reducible show wpAny _ _ (pyIter (Value.ref _)) (fun it s₂ => LoopAtV _ _ _ _ _ _ _ _ _ it s₂) _ _); (with_unfolding_all (refine' my_loop (Str.ofString "told") (Str.ofString "due") (Str.ofString "factor") ?hh ?hr ?hF ?hN ?ht ?hu ?hd ?hg ?_ ?_; (case hh => exact rfl); (case hr => assumption); (case hF => assumption); (case hN => assumption); (case ht => exact rfl); (case hu => exact rfl); (case hd => k_mem); (case hg => omega))); (all_goals (refine' stop ?_))))
local macro_rules | `(tactic| walk_at "LPost") => `(tactic| ((try dsimp only [LPost]); k_dflt (refine' stop ?_)))
theorem ne_lt {D I : Addr} {oI : Obj} {news : List (Addr × Obj)} (l : ∀ q ∈ news, q.1 < D) (h : (I, oI) ∈ news) : D ≠ I := fun e => absurd (l _ h) (by rw [e]; exact Nat.lt_irrefl _)
theorem xx : PySem.Challenge.rw_bw0035_01.Holds := hd (by
  k_go0
  all_goals try k_fold
  k_steps
  · unfold KStop
    intro k t D du t1 t2 td u h tk I oI hk0 hk1 hne h0 h1 F N
    (try dsimp only [lm] at F)
    (try k_fold)
    k_steps
    all_goals unfold KStop
    all_goals (
      (refine' LEnd.intro ?e1 ?e2 ?e5 ?e6 ?e7 ?e8 ?e9 ?e3 ?e4 ?e10)
      (case e1 => assumption)
      (case e2 => assumption)
      (case e3 => with_unfolding_all rfl)
      (case e4 => with_unfolding_all rfl)
      (case e5 => k_mem)
      (case e6 => k_mem)
      (case e7 => intro p hp; repeat (first | exact hp | refine List.Mem.tail _ ?_))
      (case e8 => first | assumption | exact ne_lt (by assumption) (by k_mem))
      (case e9 => exact Gd_intro (by first | omega | exact tt_rng (by assumption) (pt_z (by assumption) (by assumption) (by omega) (by omega)) (by omega)))
      (case e10 => intro z z1 z2 z3 z4; simp only [lm, if_neg z1, if_neg z2, if_neg z3, if_neg z4]))
  · unfold KStop
    intro D du t1 t2 td u h tk h0 h1 F N
    (try dsimp only [lm] at F)
    (try k_fold)
    k_steps)

end Mine

theorem PySem.Challenge.cw_bw0035_01_holds : PySem.Challenge.rw_bw0035_01.Holds :=
  Mine.xx

