/- Plain law: so many things read one behind the other, a round at a time. -/
import Derived.Test.YtjbjjphgnilhmaaGreatDoorBy
set_option linter.unusedVariables false
namespace Go.Proofs.YtjbjjphgnilhmaaGreatDoor.By

/-- So many of n things have been read. -/
def Prog {α} (rd : Bs → Option (α × Bs)) (n : Nat) (r0 : Bs) (i : Nat) (done : List α) (rest : Bs) : Prop :=
  done.length = i ∧ i ≤ n ∧ times rd n r0 = (times rd (n - i) rest).map fun x => (done ++ x.1, x.2)
theorem Prog.start {α} (rd : Bs → Option (α × Bs)) (n : Nat) (r0 : Bs) : Prog rd n r0 0 [] r0 := by
  refine ⟨rfl, Nat.zero_le _, ?_⟩
  rw [Nat.sub_zero]
  cases times rd n r0 with
  | none => rfl
  | some x => rfl
theorem Prog.step {α} {rd : Bs → Option (α × Bs)} {n : Nat} {r0 : Bs} {i : Nat} {done : List α} {rest r : Bs} {a : α} (h : Prog rd n r0 i done rest) (hi : i < n) (hr : rd rest = some (a, r)) : Prog rd n r0 (i + 1) (done ++ [a]) r := by
  obtain ⟨h1, h2, h3⟩ := h
  refine ⟨by simp [h1], hi, ?_⟩
  rw [h3, show n - i = (n - (i + 1)) + 1 by omega]
  simp only [times, hr]
  cases times rd (n - (i + 1)) r with
  | none => rfl
  | some x => simp
theorem Prog.fail {α} {rd : Bs → Option (α × Bs)} {n : Nat} {r0 : Bs} {i : Nat} {done : List α} {rest : Bs} (h : Prog rd n r0 i done rest) (hi : i < n) (hr : rd rest = none) : times rd n r0 = none := by
  obtain ⟨h1, h2, h3⟩ := h
  rw [h3, show n - i = (n - (i + 1)) + 1 by omega]
  simp only [times, hr]
  rfl
theorem Prog.done {α} {rd : Bs → Option (α × Bs)} {n : Nat} {r0 : Bs} {done : List α} {rest : Bs} (h : Prog rd n r0 n done rest) : times rd n r0 = some (done, rest) := by
  obtain ⟨h1, h2, h3⟩ := h
  rw [h3, Nat.sub_self]
  simp [times]
theorem skip_none {α} {sc : Bs → Option α} {k : α → Nat} {l : Bs} (h : sc l = none) : skip sc k l = none := by unfold skip; rw [h]; rfl
theorem skip_some {α} {sc : Bs → Option α} {k : α → Nat} {l : Bs} {a : α} (h : sc l = some a) : skip sc k l = some (a, l.drop (k a)) := by unfold skip; rw [h]; rfl
theorem uRow_short {α} {le : Bool} {sc : Bs → Option α} {k : α → Nat} {l : Bs} (h : l.length < 4) : uRow le sc k l = none := by
  unfold uRow row rU32; rw [if_pos h]; rfl
theorem uRow_times {α} {le : Bool} {sc : Bs → Option α} {k : α → Nat} {l : Bs} (h : ¬ l.length < 4) : uRow le sc k l = (times (skip sc k) (u32 le l) (l.drop 4)).map (·.1) := by
  unfold uRow row rU32; rw [if_neg h]
theorem scan_zero {α} (t m : Nat) (u : Bool → Bs → Option α) (k : α → Nat) (l : Bs) : scan t m u k 0 l = none := rfl
theorem single_one {α} {o : Option (List α)} {ls : List α} (h : o = some ls) : single o = ls.head?.bind fun a => if ls.length = 1 then some a else none := by
  subst h
  match ls with
  | [] => rfl
  | [a] => rfl
  | a :: b :: r => simp [single]
end Go.Proofs.YtjbjjphgnilhmaaGreatDoor.By
