/- The sentinels; the walks of the readers of heads: unmarshalUint32, byteOrderType, unmarshalByteOrderType. -/
import Derived.Test.YtjbjjphgnilhmaaGreatDoorBk
import Derived.OwnWalk
import Derived.IntWalk
set_option linter.unusedVariables false
namespace Go.Proofs.YtjbjjphgnilhmaaGreatDoor
open Go.RowKit

/-- An error that is not nil, of the one type that occurs. -/
def IsErr (A : Addr → Prop) (v : Value) : Prop := ∃ a : {a // A a}, v = .iface 203 (.pointer (some a.1))
/-- The variables that hold errors hold some. -/
def Errs (A : Addr → Prop) (w : World) : Prop := ∀ k, k < 13 → k ≠ 11 → ∃ a : {a // A a}, w.cell? ⟨k, 0, none⟩ = some (.iface 203 (.pointer (some a.1)))
variable {A : Addr → Prop}
theorem Errs.kept {X : Nat → Prop} {w w' : World} (h : Errs A w) (hk : Kept X w w') (hX : ∀ k, X k → 13 ≤ k) : Errs A w' := by
  intro k h1 h2
  obtain ⟨a, ha⟩ := h k h1 h2
  exact ⟨a, hk.cell ha (fun hx => by have := hX k hx; omega)⟩
theorem Errs.below {w w' : World} (h : Errs A w) (hb : Below w.heap.size w w') : Errs A w' := h.kept (Kept.of_below hb (fun _ => False)) fun _ h => h.elim
theorem Errs.lt {w : World} (h : Errs A w) : 13 ≤ w.heap.size := by
  obtain ⟨a, ha⟩ := h 12 (by omega) (by omega)
  have := World.block_lt_of_cell? w ⟨12, 0, none⟩ ha
  simp at this
  omega
/-- The number of an order of bytes. -/
def ordI (le : Bool) : Int := if le then 1 else 0

theorem u32_call (le : Bool) (b off n c : Nat) (l : By.Bs) (w : World) (hl : l.length = n) (hn : 4 ≤ n) (hx : BytesAt w b off l) :
    Calls Tryz.prog 66 #[.int .i64 (ordI le), .slice (some ⟨b, off, none⟩) n c] w fun e w' => e = .returned (.int .u32 (By.u32 le l)) ∧ ∃ q, w' = w.drewN q := by
  have HL := Lib.hid hl
  have HX := Lib.hid hx
  clear hl hx
  cases le
  · show Calls Tryz.prog 66 #[.int .i64 0, .slice (some ⟨b, off, none⟩) n c] w _
    go_enter Tryz.func66, Tryz.ntmps66
    go_wp2_with fail
    refine (be32_call b off n c l _ HL.out hn HX.out).mono ?_
    rintro e w1 ⟨rfl, q, rfl⟩
    go_wp2_with fail
    go_ret
    exact ⟨rfl, q, rfl⟩
  · show Calls Tryz.prog 66 #[.int .i64 1, .slice (some ⟨b, off, none⟩) n c] w _
    go_enter Tryz.func66, Tryz.ntmps66
    go_wp2_with fail
    refine (le32_call b off n c l _ HL.out hn HX.out).mono ?_
    rintro e w1 ⟨rfl, q, rfl⟩
    go_wp2_with fail
    go_ret
    exact ⟨rfl, q, rfl⟩

theorem bot_short (v : Value) (ao : Option Addr) (n c : Nat) (hv : v = .slice ao n c) (w : World) (he : Errs A w) (hn : n < 6) :
    Calls Tryz.prog 65 #[v] w fun e w' => ∃ err, IsErr A err ∧ e = .returned (.tuple #[.int .i64 0, .int .u32 0, err]) ∧ ∃ q, w' = w.drewN q := by
  obtain ⟨a, ha⟩ := he 2 (by omega) (by omega)
  have HE := Lib.hid he
  clear he
  subst hv
  go_enter Tryz.func65, Tryz.ntmps65
  go_wp2_with fail
  go_quiet (fail)
  go_wp2_with fail
  go_ret3
  exact ⟨_, ⟨a, rfl⟩, rfl, _, rfl⟩
theorem bot_bad (b off n c : Nat) (x : UInt8) (r : By.Bs) (w : World) (he : Errs A w) (hl : (x :: r).length = n) (hn : 6 ≤ n) (hx : BytesAt w b off (x :: r)) (h0 : ¬ x = 0) (h1 : ¬ x = 1) :
    Calls Tryz.prog 65 #[.slice (some ⟨b, off, none⟩) n c] w fun e w' => ∃ err, IsErr A err ∧ e = .returned (.tuple #[.int .i64 0, .int .u32 0, err]) ∧ ∃ q, w' = w.drewN q := by
  obtain ⟨a, ha⟩ := he 7 (by omega) (by omega)
  have c0 := hx 0 x rfl
  have k0 : ((x.toNat : Int) == 0) = false := by
    have : x.toNat ≠ 0 := fun h => h0 (UInt8.toNat_inj.1 h)
    simp; omega
  have k1 : ((x.toNat : Int) == 1) = false := by
    have : x.toNat ≠ 1 := fun h => h1 (UInt8.toNat_inj.1 h)
    simp; omega
  have g0 : 0 < n := by omega
  rw [Nat.add_zero] at c0
  clear he hx h0 h1 hl
  go_enter Tryz.func65, Tryz.ntmps65
  go_wp2_with fail
  go_quiet (fail)
  go_wp2_with fail
  go_ret3
  exact ⟨_, ⟨a, rfl⟩, rfl, _, rfl⟩

theorem slice_from {w : World} {b off n c : Nat} {l : By.Bs} (k : Nat) (hx : BytesAt w b off l) (hl : l.length = n) (hn : n ≤ c) : (l.drop k).length = n - k ∧ n - k ≤ c - k ∧ BytesAt w b (off + k) (l.drop k) := ⟨by simp [hl], by omega, hx.drop k⟩

theorem bot_be (b off n c : Nat) (x : UInt8) (r : By.Bs) (w : World) (hl : (x :: r).length = n) (hn : 6 ≤ n) (hc : n ≤ c) (hx : BytesAt w b off (x :: r)) (hx0 : x = 0) :
    Calls Tryz.prog 65 #[.slice (some ⟨b, off, none⟩) n c] w fun e w' => e = .returned (.tuple #[.int .i64 0, .int .u32 (By.u32 false r), .nilIface]) ∧ ∃ q, w' = w.drewN q := by
  have c0 := hx 0 x rfl
  have k0 : ((x.toNat : Int) == 0) = true := by rw [hx0]; rfl
  have g0 : 0 < n := by omega
  have g1 : 1 ≤ n := by omega
  have g1' : (1 : Int) ≤ n := by omega
  have gc : ¬ c = 1 := by omega
  rw [Nat.add_zero] at c0
  have hx1 := hx.drop 1
  have HX := Lib.hid hx1
  have HL := Lib.hid hl
  clear hx hx0 hl hx1
  go_enter Tryz.func65, Tryz.ntmps65
  go_wp2_with fail
  refine (u32_call false b (off + 1) (n - 1) (c - 1) r _ (by have := HL.out; simp at this; omega) (by omega) HX.out).mono ?_
  rintro e w1 ⟨rfl, q, rfl⟩
  go_wp2_with fail
  go_ret3
  exact ⟨rfl, q, rfl⟩

theorem bot_le (b off n c : Nat) (x : UInt8) (r : By.Bs) (w : World) (hl : (x :: r).length = n) (hn : 6 ≤ n) (hc : n ≤ c) (hx : BytesAt w b off (x :: r)) (hx0 : x = 1) :
    Calls Tryz.prog 65 #[.slice (some ⟨b, off, none⟩) n c] w fun e w' => e = .returned (.tuple #[.int .i64 1, .int .u32 (By.u32 true r), .nilIface]) ∧ ∃ q, w' = w.drewN q := by
  have c0 := hx 0 x rfl
  have k0 : ((x.toNat : Int) == 0) = false := by rw [hx0]; rfl
  have k1 : ((x.toNat : Int) == 1) = true := by rw [hx0]; rfl
  have g0 : 0 < n := by omega
  have g1 : 1 ≤ n := by omega
  have g1' : (1 : Int) ≤ n := by omega
  have gc : ¬ c = 1 := by omega
  rw [Nat.add_zero] at c0
  have hx1 := hx.drop 1
  have HX := Lib.hid hx1
  have HL := Lib.hid hl
  clear hx hx0 hl hx1
  go_enter Tryz.func65, Tryz.ntmps65
  go_wp2_with fail
  refine (u32_call true b (off + 1) (n - 1) (c - 1) r _ (by have := HL.out; simp at this; omega) (by omega) HX.out).mono ?_
  rintro e w1 ⟨rfl, q, rfl⟩
  go_wp2_with fail
  go_ret3
  exact ⟨rfl, q, rfl⟩

theorem bot_some (b off n c : Nat) (l r : By.Bs) (le : Bool) (w : World) (ho : By.order l = some (le, r)) (hl : l.length = n) (hn : 6 ≤ n) (hc : n ≤ c) (hx : BytesAt w b off l) :
    Calls Tryz.prog 65 #[.slice (some ⟨b, off, none⟩) n c] w fun e w' => e = .returned (.tuple #[.int .i64 (ordI le), .int .u32 (By.u32 le r), .nilIface]) ∧ ∃ q, w' = w.drewN q := by
  unfold By.order at ho
  split at ho
  · cases ho
  · split at ho
    · rename_i x r' h0
      cases ho
      exact bot_be b off n c x r w hl hn hc hx h0
    · split at ho
      · rename_i x r' h0 h1
        cases ho
        exact bot_le b off n c x r w hl hn hc hx h1
      · cases ho
theorem bot_none (b off n c : Nat) (l : By.Bs) (w : World) (ho : By.order l = none) (he : Errs A w) (hl : l.length = n) (hx : BytesAt w b off l) :
    Calls Tryz.prog 65 #[.slice (some ⟨b, off, none⟩) n c] w fun e w' => ∃ err, IsErr A err ∧ e = .returned (.tuple #[.int .i64 0, .int .u32 0, err]) ∧ ∃ q, w' = w.drewN q := by
  by_cases hn : n < 6
  · exact bot_short _ _ n c rfl w he hn
  unfold By.order at ho
  split at ho
  · simp at hl; omega
  · split at ho
    · cases ho
    · split at ho
      · cases ho
      · rename_i x r' h0 h1
        exact bot_bad b off n c x r' w he hl (by omega) hx h0 h1
theorem and_u32 (t m : Nat) (ht : t < 4294967296) (hm : m < 4294967296) : bits .and .u32 (t : Int) (m : Int) = ((t &&& m : Nat) : Int) :=
  (bits_nat .u32 32 (by decide) wraps_u32 t m (by simpa using ht) (by simpa using hm)).1
theorem errs_drewN {w : World} (h : Errs A w) (q : Nat) : Errs A (w.drewN q) := h
theorem bytes_drewN {w : World} {b off : Nat} {l : By.Bs} (h : BytesAt w b off l) (q : Nat) : BytesAt (w.drewN q) b off l := h

/-- What unmarshalByteOrderType gives of no head. -/
def NoHead (A : Addr → Prop) (w : World) (e : Ending) (w' : World) : Prop := ∃ err, IsErr A err ∧ e = .returned (.tuple #[.int .i64 0, .int .u32 0, .int .i64 0, .slice none 0 0, err]) ∧ ∃ q, w' = w.drewN q
theorem ubot_fail (v : Value) (w : World) (h : Calls Tryz.prog 65 #[v] w fun e w' => ∃ err, IsErr A err ∧ e = .returned (.tuple #[.int .i64 0, .int .u32 0, err]) ∧ ∃ q, w' = w.drewN q) :
    Calls Tryz.prog 41 #[v] w (NoHead A w) := by
  go_enter Tryz.func41, Tryz.ntmps41
  go_wp2_with fail
  refine h.mono ?_
  rintro e w1 ⟨err, ⟨a, rfl⟩, rfl, q, rfl⟩
  clear h
  go_wp2_with fail
  refine bodyPost_ret (v := .tuple #[.int .i64 0, .int .u32 0, .int .i64 0, .slice none 0 0, .iface 203 (.pointer (some a))]) (by simp [results, Tryz.results41, go_sem]) rfl ?_
  exact ⟨_, ⟨a, rfl⟩, rfl, _, rfl⟩
theorem ubot_fail2 (b off n c : Nat) (l r : By.Bs) (le : Bool) (w : World) (ho : By.order l = some (le, r)) (he : Errs A w) (hl : l.length = n) (hn : 6 ≤ n) (h10 : n < 10) (hc : n ≤ c) (hx : BytesAt w b off l) (ht : ¬ By.u32 le r &&& 536870912 = 0) :
    Calls Tryz.prog 41 #[.slice (some ⟨b, off, none⟩) n c] w (NoHead A w) := by
  obtain ⟨a, ha⟩ := he 2 (by omega) (by omega)
  have hcall := bot_some b off n c l r le w ho hl hn hc hx
  have hb : (bits .and .u32 ((By.u32 le r : Nat) : Int) 536870912 == 0) = false := by
    have e := and_u32 (By.u32 le r) 536870912 (By.u32_lt le r) (by omega)
    have e2 : ((536870912 : Nat) : Int) = 536870912 := rfl
    rw [e2] at e
    rw [e]
    simp; omega
  clear ho he hl hx ht
  go_enter Tryz.func41, Tryz.ntmps41
  go_wp2_with fail
  refine hcall.mono ?_
  rintro e w1 ⟨rfl, q, rfl⟩
  clear hcall
  go_wp2_with fail
  go_quiet (fail)
  go_wp2_with fail
  refine bodyPost_ret (v := .tuple #[.int .i64 0, .int .u32 0, .int .i64 0, .slice none 0 0, .iface 203 (.pointer (some a))]) (by simp [results, Tryz.results41, go_sem]) rfl ?_
  exact ⟨_, ⟨a, rfl⟩, rfl, _, World.drewN_drewN _ _ _⟩
/-- What unmarshalByteOrderType gives of a head. -/
def OneHead (w : World) (b n c : Nat) (le : Bool) (k : Nat) (d : By.Bs) (e : Ending) (w' : World) : Prop :=
  ∃ (s : Int) (off' n' c' : Nat), e = .returned (.tuple #[.int .i64 (ordI le), .int .u32 k, .int .i64 s, .slice (some ⟨b, off', none⟩) n' c', .nilIface]) ∧ d.length = n' ∧ n' ≤ c' ∧ BytesAt w b off' d ∧ ∃ q, w' = w.drewN q
theorem ubot_one (b off n c : Nat) (l r : By.Bs) (le : Bool) (w : World) (ho : By.order l = some (le, r)) (hl : l.length = n) (hn : 6 ≤ n) (hc : n ≤ c) (hx : BytesAt w b off l) (ht : By.u32 le r &&& 536870912 = 0) :
    Calls Tryz.prog 41 #[.slice (some ⟨b, off, none⟩) n c] w (OneHead w b n c le (By.u32 le r &&& 15) (r.drop 4)) := by
  have hcall := bot_some b off n c l r le w ho hl hn hc hx
  have hb : (bits .and .u32 ((By.u32 le r : Nat) : Int) 536870912 == 0) = true := by
    have e := and_u32 (By.u32 le r) 536870912 (By.u32_lt le r) (by omega)
    have e2 : ((536870912 : Nat) : Int) = 536870912 := rfl
    rw [e2] at e
    rw [e, ht]; rfl
  have hb2 : bits .and .u32 ((By.u32 le r : Nat) : Int) 15 = ((By.u32 le r &&& 15 : Nat) : Int) := and_u32 (By.u32 le r) 15 (By.u32_lt le r) (by omega)
  have hd : l.drop 5 = r.drop 4 := by
    obtain ⟨x, rfl⟩ := (By.order_some ho).2
    rfl
  have g5 : (5 : Int) ≤ n := by omega
  have g5' : 5 ≤ n := by omega
  have gc : ¬ c = 5 := by omega
  have S := slice_from 5 hx hl hc
  rw [hd] at S
  have HS := Lib.hid S
  clear S ho hl hx ht hd
  go_enter Tryz.func41, Tryz.ntmps41
  go_wp2_with fail
  refine hcall.mono ?_
  rintro e w1 ⟨rfl, q, rfl⟩
  clear hcall
  go_wp2_with fail
  go_quiet (fail)
  go_wp2_with fail
  refine bodyPost_ret (v := .tuple #[.int .i64 (ordI le), .int .u32 ((By.u32 le r &&& 15 : Nat) : Int), .int .i64 0, .slice (some ⟨b, off + 5, none⟩) (n - 5) (c - 5), .nilIface]) (by simp [results, Tryz.results41, go_sem]) rfl ?_
  exact ⟨0, off + 5, n - 5, c - 5, rfl, HS.out.1, HS.out.2.1, HS.out.2.2, _, World.drewN_drewN _ _ _⟩
theorem ubot_two (b off n c : Nat) (l r : By.Bs) (le : Bool) (w : World) (ho : By.order l = some (le, r)) (hl : l.length = n) (hn : 10 ≤ n) (hc : n ≤ c) (hx : BytesAt w b off l) (ht : ¬ By.u32 le r &&& 536870912 = 0) :
    Calls Tryz.prog 41 #[.slice (some ⟨b, off, none⟩) n c] w (OneHead w b n c le (By.u32 le r &&& 15) (r.drop 8)) := by
  have hcall := bot_some b off n c l r le w ho hl (by omega) hc hx
  have hb : (bits .and .u32 ((By.u32 le r : Nat) : Int) 536870912 == 0) = false := by
    have e := and_u32 (By.u32 le r) 536870912 (By.u32_lt le r) (by omega)
    have e2 : ((536870912 : Nat) : Int) = 536870912 := rfl
    rw [e2] at e
    rw [e]
    simp; omega
  have hb2 : bits .and .u32 ((By.u32 le r : Nat) : Int) 15 = ((By.u32 le r &&& 15 : Nat) : Int) := and_u32 (By.u32 le r) 15 (By.u32_lt le r) (by omega)
  have hd : l.drop 9 = r.drop 8 := by
    obtain ⟨x, rfl⟩ := (By.order_some ho).2
    rfl
  have g5 : (5 : Int) ≤ n := by omega
  have g5' : 5 ≤ n := by omega
  have gc : ¬ c = 5 := by omega
  have g9 : (9 : Int) ≤ n := by omega
  have g9' : 9 ≤ n := by omega
  have gc9 : ¬ c = 9 := by omega
  have S := slice_from 9 hx hl hc
  have S5 := slice_from 5 hx hl hc
  rw [hd] at S
  have HS := Lib.hid S
  have H5 := Lib.hid S5
  have hv := By.u32_lt le (l.drop 5)
  clear S S5 ho hl hx ht hd
  go_enter Tryz.func41, Tryz.ntmps41
  go_wp2_with fail
  refine hcall.mono ?_
  rintro e w1 ⟨rfl, q, rfl⟩
  clear hcall
  go_wp2_with fail
  refine (u32_call le b (off + 5) (n - 5) (c - 5) (l.drop 5) _ H5.out.1 (by omega) (bytes_drewN H5.out.2.2 q)).mono ?_
  rintro e w1 ⟨rfl, q2, rfl⟩
  go_wp2_with fail
  go_quiet (fail)
  go_wp2_with fail
  refine bodyPost_ret (v := .tuple #[.int .i64 (ordI le), .int .u32 ((By.u32 le r &&& 15 : Nat) : Int), .int .i64 (By.u32 le (l.drop 5)), .slice (some ⟨b, off + 9, none⟩) (n - 9) (c - 9), .nilIface]) (by simp [results, Tryz.results41, go_sem]) rfl ?_
  exact ⟨_, off + 9, n - 9, c - 9, rfl, HS.out.1, HS.out.2.1, HS.out.2.2, _, World.drewN_drewN _ _ _⟩
theorem ubot_some (b off n c : Nat) (l d : By.Bs) (le : Bool) (k : Nat) (w : World) (hu : By.uHead l = some (le, k, d)) (hl : l.length = n) (hc : n ≤ c) (hx : BytesAt w b off l) :
    Calls Tryz.prog 41 #[.slice (some ⟨b, off, none⟩) n c] w (OneHead w b n c le k d) := by
  unfold By.uHead at hu
  split at hu
  · cases hu
  · split at hu
    · cases hu
    · rename_i ho
      split at hu
      · rename_i ht
        cases hu
        exact ubot_one b off n c l _ le w ho hl (by omega) hc hx ht
      · rename_i ht
        split at hu
        · cases hu
        · cases hu
          exact ubot_two b off n c l _ le w ho hl (by omega) hc hx ht
theorem ubot_none (b off n c : Nat) (l : By.Bs) (w : World) (hu : By.uHead l = none) (he : Errs A w) (hl : l.length = n) (hc : n ≤ c) (hx : BytesAt w b off l) :
    Calls Tryz.prog 41 #[.slice (some ⟨b, off, none⟩) n c] w (NoHead A w) := by
  unfold By.uHead at hu
  split at hu
  · exact ubot_fail _ w (bot_short _ _ n c rfl w he (by omega))
  · split at hu
    · rename_i ho
      exact ubot_fail _ w (bot_none b off n c l w ho he hl hx)
    · rename_i ho
      split at hu
      · cases hu
      · rename_i ht
        split at hu
        · exact ubot_fail2 b off n c l _ _ w ho he hl (by omega) (by omega) hc hx ht
        · cases hu
end Go.Proofs.YtjbjjphgnilhmaaGreatDoor
