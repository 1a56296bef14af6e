/-
  PLAIN: the folded count of bits (math/bits.OnesCount64's arithmetic) is the count one by one.
-/
import Derived.Test.YbulkcqwcFmtPlain
namespace Go.Proofs.YbulkcqwcFmt
set_option linter.unusedVariables false
open Go

def M55 : Nat → Nat
  | 0 => 0
  | n + 1 => 85 + 256 * M55 n
def M33 : Nat → Nat
  | 0 => 0
  | n + 1 => 51 + 256 * M33 n
def M0f : Nat → Nat
  | 0 => 0
  | n + 1 => 15 + 256 * M0f n
def f1 (n x : Nat) : Nat := (x / 2 &&& M55 n) + (x &&& M55 n)
def f2 (n x : Nat) : Nat := (x / 4 &&& M33 n) + (x &&& M33 n)
def f3 (n x : Nat) : Nat := (x / 16 + x) &&& M0f n
def p1 (b : Nat) : Nat := (b / 2 &&& 85) + (b &&& 85)
def p2 (b : Nat) : Nat := (b / 4 &&& 51) + (b &&& 51)
def p3 (b : Nat) : Nat := (b / 16 + b) &&& 15

/-- Both sides by their lowest byte. -/
theorem and_split (x c m : Nat) (hc : c < 256) : x &&& (c + 256 * m) = (x % 256 &&& c) + 256 * (x / 256 &&& m) := by
  have h1 : (x &&& (c + 256 * m)) % 256 = x % 256 &&& c := by
    have := Nat.and_mod_two_pow (a := x) (b := c + 256 * m) (n := 8)
    rw [show (2 : Nat) ^ 8 = 256 from rfl] at this
    rw [this]
    congr 1
    omega
  have h2 : (x &&& (c + 256 * m)) / 256 = x / 256 &&& m := by
    have := Nat.and_div_two_pow (a := x) (b := c + 256 * m) (n := 8)
    rw [show (2 : Nat) ^ 8 = 256 from rfl] at this
    rw [this]
    congr 1
    omega
  omega

theorem k1 : ∀ b : Fin 256, ∀ c : Fin 2, (b.val / 2 + 128 * c.val) &&& 85 = b.val / 2 &&& 85 := by decide +kernel
theorem k2 : ∀ b : Fin 256, ∀ c : Fin 4, (b.val / 4 + 64 * c.val) &&& 51 = b.val / 4 &&& 51 := by decide +kernel
theorem q2 : ∀ b : Fin 256, p2 (p1 b.val) % 16 ≤ 4 ∧ p2 (p1 b.val) / 16 ≤ 4 ∧ p1 b.val < 256 ∧ p2 (p1 b.val) < 256 := by decide +kernel
theorem q3 : ∀ b : Fin 256, p3 (p2 (p1 b.val)) = pcAux 8 b.val ∧ pcAux 8 b.val ≤ 8 := by decide +kernel
theorem k3 : ∀ a : Fin 256, ∀ c : Fin 5, a.val % 16 ≤ 4 → a.val / 16 ≤ 4 → (a.val / 16 + 16 * c.val + a.val) &&& 15 = p3 a.val := by decide +kernel

theorem f1_step (n x : Nat) : f1 (n + 1) x = p1 (x % 256) + 256 * f1 n (x / 256) := by
  unfold f1
  rw [M55, and_split _ 85 _ (by decide), and_split x 85 _ (by decide)]
  have hb : x % 256 < 256 := Nat.mod_lt _ (by decide)
  have hk := k1 ⟨x % 256, hb⟩ ⟨x / 256 % 2, Nat.mod_lt _ (by decide)⟩
  have e1 : x / 2 % 256 = x % 256 / 2 + 128 * (x / 256 % 2) := by omega
  have e2 : x / 2 / 256 = x / 256 / 2 := by omega
  simp only at hk
  rw [e1, hk, e2, p1]
  omega
theorem f2_step (n x : Nat) : f2 (n + 1) x = p2 (x % 256) + 256 * f2 n (x / 256) := by
  unfold f2
  rw [M33, and_split _ 51 _ (by decide), and_split x 51 _ (by decide)]
  have hb : x % 256 < 256 := Nat.mod_lt _ (by decide)
  have hk := k2 ⟨x % 256, hb⟩ ⟨x / 256 % 4, Nat.mod_lt _ (by decide)⟩
  have e1 : x / 4 % 256 = x % 256 / 4 + 64 * (x / 256 % 4) := by omega
  have e2 : x / 4 / 256 = x / 256 / 4 := by omega
  simp only at hk
  rw [e1, hk, e2, p2]
  omega

/-- The first two folds, byte by byte. -/
theorem f12_step (n x : Nat) : f2 (n + 1) (f1 (n + 1) x) = p2 (p1 (x % 256)) + 256 * f2 n (f1 n (x / 256)) := by
  have hb : x % 256 < 256 := Nat.mod_lt _ (by decide)
  obtain ⟨_, _, h3, _⟩ := q2 ⟨x % 256, hb⟩
  simp only at h3
  rw [f2_step, f1_step]
  have e1 : (p1 (x % 256) + 256 * f1 n (x / 256)) % 256 = p1 (x % 256) := by omega
  have e2 : (p1 (x % 256) + 256 * f1 n (x / 256)) / 256 = f1 n (x / 256) := by omega
  rw [e1, e2]

theorem f12_low (n x : Nat) : f2 n (f1 n x) % 16 ≤ 4 := by
  cases n with
  | zero => simp [f1, f2, M55, M33]
  | succ n =>
    have hb : x % 256 < 256 := Nat.mod_lt _ (by decide)
    obtain ⟨h1, _, _, h4⟩ := q2 ⟨x % 256, hb⟩
    simp only at h1 h4
    rw [f12_step]
    omega

theorem s_step (n x : Nat) : f3 (n + 1) (f2 (n + 1) (f1 (n + 1) x)) = pcAux 8 (x % 256) + 256 * f3 n (f2 n (f1 n (x / 256))) := by
  have hb : x % 256 < 256 := Nat.mod_lt _ (by decide)
  obtain ⟨h1, h2, _, h4⟩ := q2 ⟨x % 256, hb⟩
  obtain ⟨h5, _⟩ := q3 ⟨x % 256, hb⟩
  simp only at h1 h2 h4 h5
  have hlow := f12_low n (x / 256)
  rw [f12_step]
  generalize f2 n (f1 n (x / 256)) = z at hlow ⊢
  generalize p2 (p1 (x % 256)) = a at h1 h2 h4 h5 ⊢
  unfold f3
  rw [M0f, and_split _ 15 _ (by decide)]
  have hk := k3 ⟨a, h4⟩ ⟨z % 16, by omega⟩ h1 h2
  simp only at hk
  have e1 : ((a + 256 * z) / 16 + (a + 256 * z)) % 256 = a / 16 + 16 * (z % 16) + a := by omega
  have e2 : ((a + 256 * z) / 16 + (a + 256 * z)) / 256 = z / 16 + z := by omega
  rw [e1, e2, hk, h5]

theorem pc_split (x : Nat) : ∀ f, pcAux (8 + f) x = pcAux 8 (x % 256) + pcAux f (x / 256) := by
  intro f
  have e : 8 + f = f + 1 + 1 + 1 + 1 + 1 + 1 + 1 + 1 := by omega
  rw [e]
  simp only [pcAux]
  have e1 : x / 2 / 2 / 2 / 2 / 2 / 2 / 2 / 2 = x / 256 := by omega
  rw [e1]
  omega

/-- The folds' last three additions gather the eight bytes. -/
def add1 (y : Nat) : Nat := y + y / 256
def add2 (y : Nat) : Nat := y + y / 65536
def add3 (y : Nat) : Nat := y + y / 4294967296
def fold64 (x : Nat) : Nat := add3 (add2 (add1 (f3 8 (f2 8 (f1 8 x))))) % 128

theorem add1_of (c T : Nat) (hc : c < 256) : add1 (c + 256 * T) = c + 256 * T + T := by
  unfold add1
  have : (c + 256 * T) / 256 = T := by omega
  rw [this]
theorem add2_of (c T : Nat) (hc : c < 65536) : add2 (c + 65536 * T) = c + 65536 * T + T := by
  unfold add2
  have : (c + 65536 * T) / 65536 = T := by omega
  rw [this]
theorem add3_of (c T : Nat) (hc : c < 4294967296) : add3 (c + 4294967296 * T) = c + 4294967296 * T + T := by
  unfold add3
  have : (c + 4294967296 * T) / 4294967296 = T := by omega
  rw [this]

theorem gather3 (A B C D : Nat) (hA : A ≤ 4112) (hB : B ≤ 4112) (hC : C ≤ 4112) (hD : D ≤ 4112) :
    add3 (add2 (A + 65536 * (B + 65536 * (C + 65536 * D)))) % 128 = (A + B + C + D) % 128 := by
  have e1 : add2 (A + 65536 * (B + 65536 * (C + 65536 * D))) = (A + B + 65536 * (B + C)) + 4294967296 * ((C + D) + 65536 * D) := by
    rw [add2_of A (B + 65536 * (C + 65536 * D)) (by omega)]
    omega
  have e2 : add3 ((A + B + 65536 * (B + C)) + 4294967296 * ((C + D) + 65536 * D)) = (A + B + C + D) + 128 * (512 * (B + C) + 33554432 * ((C + D) + 65536 * D) + 512 * D) := by
    rw [add3_of (A + B + 65536 * (B + C)) ((C + D) + 65536 * D) (by omega)]
    omega
  rw [e1, e2, Nat.add_mul_mod_self_left]

theorem gather1 (c0 c1 c2 c3 c4 c5 c6 c7 : Nat) (h0 : c0 ≤ 8) :
    add1 (c0 + 256 * (c1 + 256 * (c2 + 256 * (c3 + 256 * (c4 + 256 * (c5 + 256 * (c6 + 256 * c7)))))))
      = ((c0 + c1) + 256 * (c1 + c2)) + 65536 * (((c2 + c3) + 256 * (c3 + c4)) + 65536 * (((c4 + c5) + 256 * (c5 + c6)) + 65536 * ((c6 + c7) + 256 * c7))) := by
  rw [add1_of c0 (c1 + 256 * (c2 + 256 * (c3 + 256 * (c4 + 256 * (c5 + 256 * (c6 + 256 * c7)))))) (by omega)]
  omega

theorem gather2 (c0 c1 c2 c3 c4 c5 c6 c7 : Nat) (h0 : c0 ≤ 8) (h1 : c1 ≤ 8) (h2 : c2 ≤ 8) (h3 : c3 ≤ 8) (h4 : c4 ≤ 8) (h5 : c5 ≤ 8) (h6 : c6 ≤ 8) (h7 : c7 ≤ 8) :
    (((c0 + c1) + 256 * (c1 + c2)) + ((c2 + c3) + 256 * (c3 + c4)) + ((c4 + c5) + 256 * (c5 + c6)) + ((c6 + c7) + 256 * c7)) % 128 = c0 + (c1 + (c2 + (c3 + (c4 + (c5 + (c6 + c7)))))) := by
  omega

theorem gather (c0 c1 c2 c3 c4 c5 c6 c7 : Nat) (h0 : c0 ≤ 8) (h1 : c1 ≤ 8) (h2 : c2 ≤ 8) (h3 : c3 ≤ 8) (h4 : c4 ≤ 8) (h5 : c5 ≤ 8) (h6 : c6 ≤ 8) (h7 : c7 ≤ 8) :
    add3 (add2 (add1 (c0 + 256 * (c1 + 256 * (c2 + 256 * (c3 + 256 * (c4 + 256 * (c5 + 256 * (c6 + 256 * c7))))))))) % 128 = c0 + (c1 + (c2 + (c3 + (c4 + (c5 + (c6 + c7)))))) := by
  rw [gather1 c0 c1 c2 c3 c4 c5 c6 c7 h0, gather3 _ _ _ _ (by omega) (by omega) (by omega) (by omega), gather2 c0 c1 c2 c3 c4 c5 c6 c7 h0 h1 h2 h3 h4 h5 h6 h7]

theorem fold64_pc (x : Nat) (hx : x < 18446744073709551616) : fold64 x = pcAux 64 x := by
  unfold fold64
  have hc : ∀ z, pcAux 8 (z % 256) ≤ 8 := fun z => (q3 ⟨z % 256, Nat.mod_lt _ (by decide)⟩).2
  rw [s_step 7, s_step 6, s_step 5, s_step 4, s_step 3, s_step 2, s_step 1, s_step 0]
  have e0 : ∀ z, f3 0 (f2 0 (f1 0 z)) = 0 := fun z => by simp [f3, M0f]
  rw [e0]
  rw [pc_split x 56, pc_split (x / 256) 48, pc_split (x / 256 / 256) 40, pc_split (x / 256 / 256 / 256) 32, pc_split (x / 256 / 256 / 256 / 256) 24, pc_split (x / 256 / 256 / 256 / 256 / 256) 16,
    pc_split (x / 256 / 256 / 256 / 256 / 256 / 256) 8, pc_split (x / 256 / 256 / 256 / 256 / 256 / 256 / 256) 0]
  have h0 := hc x
  have h1 := hc (x / 256)
  have h2 := hc (x / 256 / 256)
  have h3 := hc (x / 256 / 256 / 256)
  have h4 := hc (x / 256 / 256 / 256 / 256)
  have h5 := hc (x / 256 / 256 / 256 / 256 / 256)
  have h6 := hc (x / 256 / 256 / 256 / 256 / 256 / 256)
  have h7 := hc (x / 256 / 256 / 256 / 256 / 256 / 256 / 256)
  generalize pcAux 8 (x % 256) = c0 at *
  generalize pcAux 8 (x / 256 % 256) = c1 at *
  generalize pcAux 8 (x / 256 / 256 % 256) = c2 at *
  generalize pcAux 8 (x / 256 / 256 / 256 % 256) = c3 at *
  generalize pcAux 8 (x / 256 / 256 / 256 / 256 % 256) = c4 at *
  generalize pcAux 8 (x / 256 / 256 / 256 / 256 / 256 % 256) = c5 at *
  generalize pcAux 8 (x / 256 / 256 / 256 / 256 / 256 / 256 % 256) = c6 at *
  generalize pcAux 8 (x / 256 / 256 / 256 / 256 / 256 / 256 / 256 % 256) = c7 at *
  have ep : ∀ z, pcAux 0 z = 0 := fun _ => rfl
  rw [ep, Nat.mul_zero, Nat.add_zero]
  exact gather c0 c1 c2 c3 c4 c5 c6 c7 h0 h1 h2 h3 h4 h5 h6 h7

theorem m55 : M55 8 = 6148914691236517205 := by decide
theorem m33 : M33 8 = 3689348814741910323 := by decide
theorem m0f : M0f 8 = 1085102592571150095 := by decide
end Go.Proofs.YbulkcqwcFmt
