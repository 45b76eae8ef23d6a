/- Plain law: the area of a ring is the sum of those of both rings into which two corners cut it. -/
import Derived.Test.YtpbhpplmokdkhaaDoorSp
import Derived.Test.YtpbhpplmokdkhaaDoorIr
namespace Rg
/-- The shoelace sum. -/
def SH (X Y : Nat → Int) : Nat → Int
  | 0 => 0
  | k + 1 => SH X Y k + (X k * Y (k + 1) - X (k + 1) * Y k)
theorem SH_succ (X Y : Nat → Int) (k : Nat) : SH X Y (k + 1) = SH X Y k + (X k * Y (k + 1) - X (k + 1) * Y k) := rfl
theorem TN_SH (X Y : Nat → Int) : ∀ m, TN X Y m = SH X Y (m + 1) + (X (m + 1) * Y 0 - X 0 * Y (m + 1)) := by
  intro m
  induction m with
  | zero => simp only [TN, SH]; grind
  | succ m ih =>
    unfold TN
    rw [ih]
    rw [SH_succ X Y (m + 1)]
    unfold tri
    grind
theorem SH_shift {X Y X' Y' : Nat → Int} {s : Nat} : ∀ m, (∀ j, j ≤ m → X' j = X (s + j) ∧ Y' j = Y (s + j)) → SH X' Y' m = SH X Y (s + m) - SH X Y s := by
  intro m
  induction m with
  | zero => intro _; simp [SH]
  | succ m ih =>
    intro h
    have h1 := h m (by omega)
    have h2 := h (m + 1) (by omega)
    rw [SH_succ X' Y' m, ih (fun j hj => h j (by omega)), h1.1, h1.2, h2.1, h2.2]
    rw [show s + (m + 1) = s + m + 1 by omega, SH_succ X Y (s + m)]
    grind
theorem SH_add (X Y : Nat → Int) (a : Nat) : ∀ b, SH X Y (a + b) = SH X Y a + SH (fun j => X (a + j)) (fun j => Y (a + j)) b := by
  intro b
  induction b with
  | zero => simp [SH]
  | succ b ih =>
    rw [show a + (b + 1) = a + b + 1 by omega, SH_succ X Y (a + b), SH_succ _ _ b, ih]
    have e : ∀ j, a + (j + 1) = a + j + 1 := fun j => by omega
    simp only [e]
    grind
theorem SH_closed {X Y : Nat → Int} {n : Nat} (h2 : 2 ≤ n) (hc : X (n - 1) = X 0 ∧ Y (n - 1) = Y 0) : TN X Y (n - 2) = SH X Y (n - 1) := by
  rw [TN_SH, show n - 2 + 1 = n - 1 by omega, hc.1, hc.2]
  grind
/-- The sums of both parts. -/
theorem cut_sum {X Y X1 Y1 X2 Y2 : Nat → Int} {n i k : Nat} (hik : i < k) (hk : k + 1 < n) (hc : X (n - 1) = X 0 ∧ Y (n - 1) = Y 0)
    (h1 : ∀ j, j ≤ k - i → X1 j = X (i + j) ∧ Y1 j = Y (i + j)) (h1l : X1 (k - i + 1) = X i ∧ Y1 (k - i + 1) = Y i)
    (h2 : ∀ j, j ≤ n - 1 - k → X2 j = X (k + j) ∧ Y2 j = Y (k + j)) (h2m : ∀ t, t < i → X2 (n - k + t) = X (1 + t) ∧ Y2 (n - k + t) = Y (1 + t)) (h2l : X2 (n - k + i) = X k ∧ Y2 (n - k + i) = Y k) :
    SH X Y (n - 1) = SH X1 Y1 (k - i + 1) + SH X2 Y2 (n - k + i) := by
  have a1 : SH X1 Y1 (k - i + 1) = SH X Y k - SH X Y i + (X k * Y i - X i * Y k) := by
    have e := h1 (k - i) (by omega)
    rw [SH_succ, SH_shift (k - i) h1, h1l.1, h1l.2, e.1, e.2, show i + (k - i) = k by omega]
  have b0 : SH X2 Y2 (n - 1 - k) = SH X Y (n - 1) - SH X Y k := by rw [SH_shift (n - 1 - k) h2, show k + (n - 1 - k) = n - 1 by omega]
  have bl := h2 (n - 1 - k) (by omega)
  rw [show k + (n - 1 - k) = n - 1 by omega, hc.1, hc.2] at bl
  have a2 : SH X2 Y2 (n - k + i) = SH X Y (n - 1) - SH X Y k + SH X Y i + (X i * Y k - X k * Y i) := by
    by_cases hi : i = 0
    · subst hi
      rw [show n - k + 0 = (n - 1 - k) + 1 by omega] at h2l ⊢
      have z : SH X Y 0 = 0 := rfl
      rw [SH_succ, b0, h2l.1, h2l.2, bl.1, bl.2, z]
      grind
    · have e1 : n - k + i = (n - k) + (i - 1) + 1 := by omega
      have m0 := h2m 0 (by omega)
      have ml := h2m (i - 1) (by omega)
      rw [Nat.add_zero] at m0
      have s1 : SH X2 Y2 (n - k) = SH X Y (n - 1) - SH X Y k + (X 0 * Y 1 - X 1 * Y 0) := by
        have e3 : n - k = (n - 1 - k) + 1 := by omega
        rw [e3] at m0 ⊢
        rw [SH_succ, b0, m0.1, m0.2, bl.1, bl.2]
      have s2 : SH (fun j => X2 (n - k + j)) (fun j => Y2 (n - k + j)) (i - 1) = SH X Y (1 + (i - 1)) - SH X Y 1 := SH_shift (i - 1) (fun j hj => h2m j (by omega))
      have s3 : SH X Y 1 = X 0 * Y 1 - X 1 * Y 0 := by simp [SH]
      rw [show 1 + (i - 1) = i by omega] at s2 ml
      rw [e1] at h2l ⊢
      rw [SH_succ, SH_add, s1, s2, h2l.1, h2l.2, ml.1, ml.2, s3]
      grind
  rw [a1, a2]
  grind
end Rg
