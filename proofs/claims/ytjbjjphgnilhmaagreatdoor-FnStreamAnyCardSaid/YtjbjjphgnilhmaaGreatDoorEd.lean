/- The walks of spec's reader of bytes: more, number, float. -/
import Derived.Test.YtjbjjphgnilhmaaGreatDoorBo
import Derived.Test.YtjbjjphgnilhmaaGreatDoorEc
import Derived.Deep.RegionHeld3
set_option linter.unusedVariables false
set_option linter.unusedSimpArgs false
namespace Go.Proofs.YtjbjjphgnilhmaaGreatDoor
open Go.RowKit

/-- Where spec's reader lies, and over what. -/
structure Psr where
  rb : Nat
  db : Nat
  off : Nat
  n : Nat
  c : Nat
  data : By.Bs
structure Psr.Ok (S : Psr) (w : World) : Prop where
  len : S.data.length = S.n
  cap : S.n ≤ S.c
  small : S.n ≤ 2147483647
  lt : S.db < S.rb
  at_ : BytesAt w S.db S.off S.data
/-- A reader that has l before it. -/
def Prs (S : Psr) (w : World) (l : By.Bs) : Prop := S.Ok w ∧ ∃ i : Nat, i ≤ S.n ∧ l = S.data.drop i ∧ Blk w S.rb #[.slice (some ⟨S.db, S.off, none⟩) S.n S.c, .int .i64 i] 55
theorem Psr.Ok.kept {S : Psr} {X : Nat → Prop} {w w' : World} (h : S.Ok w) (hk : Kept X w w') (hX : ∀ k, X k → S.rb ≤ k) : S.Ok w' :=
  ⟨h.len, h.cap, h.small, h.lt, hk.bytes h.at_ fun hx => by have := hX _ hx; have := h.lt; omega⟩
theorem Prs.kept {S : Psr} {X : Nat → Prop} {w w' : World} {l : By.Bs} (h : Prs S w l) (hk : Kept X w w') (hX : ∀ k, X k → S.rb < k) : Prs S w' l := by
  obtain ⟨ho, i, h1, h2, h3⟩ := h
  exact ⟨ho.kept hk fun k hx => Nat.le_of_lt (hX k hx), i, h1, h2, (hk.block S.rb h3.lt (fun hx => by have := hX _ hx; omega)).trans h3⟩
theorem Prs.below {S : Psr} {w w' : World} {l : By.Bs} (h : Prs S w l) (hb : Below w.heap.size w w') : Prs S w' l := h.kept (Kept.of_below hb (fun _ => False)) fun _ h => h.elim
theorem Prs.lt {S : Psr} {w : World} {l : By.Bs} (h : Prs S w l) : S.rb < w.heap.size := by
  obtain ⟨_, i, _, _, h3⟩ := h
  exact h3.lt
theorem Prs.len {S : Psr} {w : World} {l : By.Bs} (h : Prs S w l) : l.length ≤ 2147483647 := by
  obtain ⟨ho, i, h1, rfl, _⟩ := h
  have := ho.len
  have := ho.small
  rw [List.length_drop]; omega
/-- The block that the reader turns. -/
abbrev Rb (S : Psr) : Nat → Prop := fun b => b = S.rb

set_option maxRecDepth 100000 in
/-- A slice from a place to another. -/
theorem span_run (b off n c i k : Nat) (I K : Int) (hI : I = i) (hK : K = i + k) (hk : i + k ≤ n) (h0 : 0 < k) (hc : n ≤ c) (w : World) : (Instr.slice 22 (.slice (some ⟨b, off, none⟩) n c) (some (.int .i64 I)) (some (.int .i64 K)) none).run Tryz.prog w = .ok (.slice (some ⟨b, off + i, none⟩) k (c - i)) w := by
  have g0 : (0 : Int) ≤ I := by omega
  have g00 : ¬ I < 0 := by omega
  have g1 : I ≤ K := by omega
  have g11 : ¬ K < I := by omega
  have g2 : K ≤ (c : Int) := by omega
  have g22 : ¬ (c : Int) < K := by omega
  have g3 : ¬ c = i := by omega
  have g4 : I.toNat = i := by omega
  have g5 : K.toNat = i + k := by omega
  have g6 : (K - I).toNat = k := by omega
  have g7 : i + k - i = k := by omega
  have g8 : (0 : Int) ≤ K := by omega
  have g9 : I ≤ ((i + k : Nat) : Int) := by omega
  have e : (Instr.sliceBounds true n c (some (.int .i64 I)) (some (.int .i64 K)) none).run Tryz.prog w = .ok (i, i + k, c) w := by
    have g10 : I ≤ max K 0 := by omega
    simp [Instr.sliceBounds, Instr.sliceBound, asIntOf, g0, g2, g4, g5, g8, g10]
    intro hh; omega
  have e2 : (⟨b, off, none⟩ : Addr).add i = ⟨b, off + i, none⟩ := by
    unfold Addr.add
    split
    · simp_all
    · rfl
  simp [Instr.slice, e]
  rw [if_neg g3]
  go_simp
set_option maxRecDepth 100000 in
theorem more_none (S : Psr) (k : Nat) (w : World) (l : By.Bs) (h : Prs S w l) (hl : l.length < k) :
    Calls Tryz.prog 52 #[.pointer (some ⟨S.rb, 0, none⟩), .int .i64 k] w fun e w' => e = .returned (.tuple #[.slice none 0 0, .bool false]) ∧ ∃ q, w' = w.drewN q := by
  obtain ⟨ho, i, h1, h2, h3⟩ := h
  have hlen : l.length = S.n - i := by rw [h2, List.length_drop, ho.len]
  obtain ⟨c0, _⟩ := h3.cell (i := 0) rfl
  obtain ⟨c1, _⟩ := h3.cell (i := 1) rfl
  have hsm := ho.small
  have hj : IntKind.i64.wrap ((S.n : Int) - (i : Int)) = (S.n : Int) - (i : Int) := IntWalk.i64_in _ (by omega)
  have hlt := decide_eq_true (show (S.n : Int) - (i : Int) < (k : Int) by omega)
  clear ho h2 h3
  go_enter Tryz.func52, Tryz.ntmps52
  go_wp2_with fail
  go_quiet (fail)
  go_wp2_with fail
  go_ret2
  exact ⟨rfl, _, rfl⟩
set_option maxRecDepth 100000 in
theorem more_some (S : Psr) (k : Nat) (w : World) (l : By.Bs) (h : Prs S w l) (hl : k ≤ l.length) (h0 : 0 < k) :
    Calls Tryz.prog 52 #[.pointer (some ⟨S.rb, 0, none⟩), .int .i64 k] w fun e w' => ∃ o c, e = .returned (.tuple #[.slice (some ⟨S.db, o, none⟩) k c, .bool true]) ∧ k ≤ c ∧ BytesAt w' S.db o (l.take k) ∧ Prs S w' (l.drop k) ∧ Kept (Rb S) w w' := by
  obtain ⟨ho, i, h1, h2, h3⟩ := h
  have hlen : l.length = S.n - i := by rw [h2, List.length_drop, ho.len]
  obtain ⟨c0, _⟩ := h3.cell (i := 0) rfl
  obtain ⟨c1, _⟩ := h3.cell (i := 1) rfl
  have hsm := ho.small
  have hj : IntKind.i64.wrap ((S.n : Int) - (i : Int)) = (S.n : Int) - (i : Int) := IntWalk.i64_in _ (by omega)
  have hlt := decide_eq_false (show ¬ (S.n : Int) - (i : Int) < (k : Int) by omega)
  have hj2 : IntKind.i64.wrap ((i : Int) + (k : Int)) = (i : Int) + (k : Int) := IntWalk.i64_in _ (by omega)
  have hsl := span_run S.db S.off S.n S.c i k (i : Int) ((i : Int) + (k : Int)) rfl rfl (by omega) h0 ho.cap
  have HH := Lib.hid (⟨ho, h1, h2, h3, hlen, hl, h0⟩ : _ ∧ _ ∧ _ ∧ _ ∧ _ ∧ _ ∧ _)
  clear ho h2 h3 hlen
  go_enter Tryz.func52, Tryz.ntmps52
  go_wp2_with fail
  go_quiet (fail)
  go_wp2_with fail
  go_quiet (fail)
  go_wp2_with fail
  go_ret2
  have K1 : Kept (Rb S) w (w.setCell ⟨S.rb, 1, none⟩ (.int .i64 ((i : Int) + (k : Int)))) := (Kept.refl _ w).setCell ⟨S.rb, 1, none⟩ _ (.inr rfl)
  have e1 : (i : Int) + (k : Int) = ((i + k : Nat) : Int) := by omega
  have hb := HH.out.2.2.2.1
  have hb2 := hb.set 1 (.int .i64 ((i + k : Nat) : Int))
  rw [e1] at K1 ⊢
  refine ⟨_, _, rfl, by have := HH.out.1.cap; have := HH.out.2.2.2.2.1; have := HH.out.2.2.2.2.2.1; omega, ?_, ⟨?_, i + k, ?_, ?_, ?_⟩, ?_⟩
  · refine (K1.drewN _).bytes (l := l.take k) ?_ (by have := HH.out.1.lt; show ¬ S.db = S.rb; omega)
    have hx := HH.out.1.at_.drop i
    rw [← HH.out.2.2.1] at hx
    intro j x hj
    have hjk : j < k := by have := (List.getElem?_eq_some_iff.1 hj).1; rw [List.length_take] at this; omega
    rw [List.getElem?_take_of_lt hjk] at hj
    exact hx j x hj
  · exact HH.out.1.kept (K1.drewN _) (fun b hb => Nat.le_of_eq hb.symm)
  · have := HH.out.2.2.2.2.1; have := HH.out.2.2.2.2.2.1; omega
  · rw [HH.out.2.2.1, List.drop_drop]
  · exact hb2.drewN _
  · exact K1.drewN _
theorem bits_or_comm32 (x y : Int) : bits .or .u32 x y = bits .or .u32 y x := by simp only [bits, BitVec.or_comm]
theorem or4 {a b c d : Int} (a0 : 0 ≤ a) (a1 : a < 256) (b0 : 0 ≤ b) (b1 : b < 256) (c0 : 0 ≤ c) (c1 : c < 256) (d0 : 0 ≤ d) (d1 : d < 256) :
    bits .or .u32 (bits .or .u32 (bits .or .u32 (a * 16777216) (b * 65536)) (c * 256)) d = d + c * 256 + b * 65536 + a * 16777216 := by
  rw [bits_or_comm32 (a * 16777216), u32_or24 (y := b * 65536) (x := a * 16777216) (by omega) (by omega) (by omega) (by omega) (by omega),
    bits_or_comm32 _ (c * 256), u32_or16 (y := c * 256) (x := b * 65536 + a * 16777216) (by omega) (by omega) (by omega) (by omega) (by omega),
    bits_or_comm32 _ d, u32_or8 (y := d) (x := c * 256 + (b * 65536 + a * 16777216)) (by omega) (by omega) (by omega) (by omega) (by omega)]
  omega
theorem number_none (S : Psr) (big : Bool) (w : World) (l : By.Bs) (h : Prs S w l) (hl : l.length < 4) :
    Calls Tryz.prog 53 #[.pointer (some ⟨S.rb, 0, none⟩), .bool big] w fun e w' => e = .returned (.tuple #[.int .u32 0, .bool false]) ∧ ∃ q, w' = w.drewN q := by
  have hcall := more_none S 4 w l h hl
  clear h hl
  go_enter Tryz.func53, Tryz.ntmps53
  go_wp2_with fail
  refine hcall.mono ?_
  rintro e w1 ⟨rfl, q, rfl⟩
  clear hcall
  go_wp2_with fail
  go_ret2
  exact ⟨rfl, q, rfl⟩

set_option maxHeartbeats 4000000 in
set_option maxRecDepth 100000 in
theorem num_le (S : Psr) (w : World) (l : By.Bs) (h : Prs S w l) (hl : 4 ≤ l.length) :
    Calls Tryz.prog 53 #[.pointer (some ⟨S.rb, 0, none⟩), .bool false] w fun e w' => e = .returned (.tuple #[.int .u32 (By.u32 true l), .bool true]) ∧ Prs S w' (l.drop 4) ∧ Kept (Rb S) w w' := by
  have hcall := more_some S 4 w l h hl (by omega)
  obtain ⟨x0, x1, x2, x3, r, rfl⟩ := four_of l hl
  have h0 : x0.toNat < 256 := x0.toNat_lt
  have h1 : x1.toNat < 256 := x1.toNat_lt
  have h2 : x2.toNat < 256 := x2.toNat_lt
  have h3 : x3.toNat < 256 := x3.toNat_lt
  have hv : ((By.u32 true (x0 :: x1 :: x2 :: x3 :: r) : Nat) : Int) = (x0.toNat : Int) + (x1.toNat : Int) * 256 + (x2.toNat : Int) * 65536 + (x3.toNat : Int) * 16777216 := by
    rw [u32_four]
    simp only [By.num, if_true, Lib.leNat]
    push_cast
    omega
  clear h hl
  go_enter Tryz.func53, Tryz.ntmps53
  go_wp2_with fail
  refine hcall.mono ?_
  rintro e w1 ⟨o, c, rfl, hc, hx, hP, hK⟩
  have c0 := hx 0 x0 rfl
  have c1 := hx 1 x1 rfl
  have c2 := hx 2 x2 rfl
  have c3 := hx 3 x3 rfl
  rw [Nat.add_zero] at c0
  have HF := Lib.hid (⟨hP, hK⟩ : _ ∧ _)
  clear hcall hx hP hK
  go_wp2_with fail
  go_quiet (fail)
  go_wp2_with fail
  go_ret2
  have e : bits .or .u32 (bits .or .u32 (bits .or .u32 ((x3.toNat : Int) * 16777216) ((x2.toNat : Int) * 65536)) ((x1.toNat : Int) * 256)) (x0.toNat : Int) = ((By.u32 true (x0 :: x1 :: x2 :: x3 :: r) : Nat) : Int) := by
    rw [or4 (by omega) (by omega) (by omega) (by omega) (by omega) (by omega) (by omega) (by omega), hv]
  refine ⟨congrArg (fun z => Ending.returned (.tuple #[.int .u32 z, .bool true])) e, ?_, HF.out.2.drewN _⟩
  exact HF.out.1.below (below_drewN (Below.refl _ _) _)

set_option maxHeartbeats 4000000 in
set_option maxRecDepth 100000 in
theorem num_be (S : Psr) (w : World) (l : By.Bs) (h : Prs S w l) (hl : 4 ≤ l.length) :
    Calls Tryz.prog 53 #[.pointer (some ⟨S.rb, 0, none⟩), .bool true] w fun e w' => e = .returned (.tuple #[.int .u32 (By.u32 false l), .bool true]) ∧ Prs S w' (l.drop 4) ∧ Kept (Rb S) w w' := by
  have hcall := more_some S 4 w l h hl (by omega)
  obtain ⟨x0, x1, x2, x3, r, rfl⟩ := four_of l hl
  have h0 : x0.toNat < 256 := x0.toNat_lt
  have h1 : x1.toNat < 256 := x1.toNat_lt
  have h2 : x2.toNat < 256 := x2.toNat_lt
  have h3 : x3.toNat < 256 := x3.toNat_lt
  have hv : ((By.u32 false (x0 :: x1 :: x2 :: x3 :: r) : Nat) : Int) = (x3.toNat : Int) + (x2.toNat : Int) * 256 + (x1.toNat : Int) * 65536 + (x0.toNat : Int) * 16777216 := by
    rw [u32_four]
    simp only [By.num, Bool.false_eq_true, if_false, Lib.beNat, Lib.beFrom]
    push_cast
    omega
  clear h hl
  go_enter Tryz.func53, Tryz.ntmps53
  go_wp2_with fail
  refine hcall.mono ?_
  rintro e w1 ⟨o, c, rfl, hc, hx, hP, hK⟩
  have c0 := hx 0 x0 rfl
  have c1 := hx 1 x1 rfl
  have c2 := hx 2 x2 rfl
  have c3 := hx 3 x3 rfl
  rw [Nat.add_zero] at c0
  have HF := Lib.hid (⟨hP, hK⟩ : _ ∧ _)
  clear hcall hx hP hK
  go_wp2_with fail
  go_quiet (fail)
  go_wp2_with fail
  go_ret2
  have e : bits .or .u32 (bits .or .u32 (bits .or .u32 ((x0.toNat : Int) * 16777216) ((x1.toNat : Int) * 65536)) ((x2.toNat : Int) * 256)) (x3.toNat : Int) = ((By.u32 false (x0 :: x1 :: x2 :: x3 :: r) : Nat) : Int) := by
    rw [or4 (by omega) (by omega) (by omega) (by omega) (by omega) (by omega) (by omega) (by omega), hv]
  refine ⟨congrArg (fun z => Ending.returned (.tuple #[.int .u32 z, .bool true])) e, ?_, HF.out.2.drewN _⟩
  exact HF.out.1.below (below_drewN (Below.refl _ _) _)

theorem number_some (S : Psr) (le : Bool) (w : World) (l : By.Bs) (h : Prs S w l) (hl : 4 ≤ l.length) :
    Calls Tryz.prog 53 #[.pointer (some ⟨S.rb, 0, none⟩), .bool (!le)] w fun e w' => e = .returned (.tuple #[.int .u32 (By.u32 le l), .bool true]) ∧ Prs S w' (l.drop 4) ∧ Kept (Rb S) w w' := by
  cases le
  · exact num_be S w l h hl
  · exact num_le S w l h hl
/-- Whatever is cut off is told. -/
theorem float_none (S : Psr) (big : Bool) (w : World) (l : By.Bs) (h : Prs S w l) (hl : l.length < 8) :
    Calls Tryz.prog 82 #[.pointer (some ⟨S.rb, 0, none⟩), .bool big] w fun e w' => e = .returned (.tuple #[.float .f64 0, .bool false]) ∧ (∃ l2, l2.length < 8 ∧ Prs S w' l2) ∧ Kept (Rb S) w w' := by
  obtain ⟨le, rfl⟩ : ∃ le, big = !le := ⟨!big, by simp⟩
  by_cases h4 : l.length < 4
  · have hcall := number_none S (!le) w l h h4
    have HP := Lib.hid h
    clear h
    go_enter Tryz.func82, Tryz.ntmps82
    go_wp2_with fail
    refine hcall.mono ?_
    rintro e w1 ⟨rfl, q, rfl⟩
    have hcall2 := number_none S (!le) _ l (HP.out.below (below_drewN (Below.refl _ _) q)) h4
    clear hcall
    go_wp2_with fail
    refine hcall2.mono ?_
    rintro e w1 ⟨rfl, q2, rfl⟩
    clear hcall2
    go_wp2_with fail
    go_ret2
    exact ⟨rfl, ⟨l, hl, HP.out.below (below_drewN (Below.refl _ _) _)⟩, (Kept.refl _ _).drewN _⟩
  · have hcall := number_some S le w l h (by omega)
    clear h
    go_enter Tryz.func82, Tryz.ntmps82
    go_wp2_with fail
    refine hcall.mono ?_
    rintro e w1 ⟨rfl, hP, hK⟩
    have hcall2 := number_none S (!le) _ _ hP (by rw [List.length_drop]; omega)
    have HF := Lib.hid (⟨hP, hK⟩ : _ ∧ _)
    clear hcall hP hK
    go_wp2_with fail
    refine hcall2.mono ?_
    rintro e w1 ⟨rfl, q2, rfl⟩
    clear hcall2
    go_wp2_with fail
    go_ret2
    exact ⟨rfl, ⟨l.drop 4, by rw [List.length_drop]; omega, HF.out.1.below (below_drewN (Below.refl _ _) q2)⟩, HF.out.2.drewN q2⟩

theorem float_le (S : Psr) (w : World) (l : By.Bs) (h : Prs S w l) (hl : 8 ≤ l.length) :
    Calls Tryz.prog 82 #[.pointer (some ⟨S.rb, 0, none⟩), .bool false] w fun e w' => e = .returned (.tuple #[.float .f64 (By.u64 true l), .bool true]) ∧ Prs S w' (l.drop 8) ∧ Kept (Rb S) w w' := by
  have hcall := num_le S w l h (by omega)
  have hk := call_frombits
  have e1 := By.u32_lt true l
  have e2 := By.u32_lt true (l.drop 4)
  have hv : ((By.u64 true l : Nat) : Int) = ((By.u32 true l : Nat) : Int) + ((By.u32 true (l.drop 4) : Nat) : Int) * 4294967296 := by
    rw [u64_split _ _ (by omega)]
    simp only [if_true, Bool.false_eq_true, if_false]
    omega
  have hw : bits .or .u64 (((By.u32 true (l.drop 4) : Nat) : Int) * 4294967296) ((By.u32 true l : Nat) : Int) = ((By.u64 true l : Nat) : Int) := by
    rw [bits_or_comm64, u64_or32 (y := ((By.u32 true l : Nat) : Int)) (x := ((By.u32 true (l.drop 4) : Nat) : Int) * 4294967296) (by omega) (by omega) (by omega) (by omega) (by omega), hv]
  have hwr1 := IntWalk.u64_in (((By.u32 true l : Nat) : Int) * 4294967296) (by omega)
  have hwr2 := IntWalk.u64_in (((By.u32 true (l.drop 4) : Nat) : Int) * 4294967296) (by omega)
  clear h hv
  go_enter Tryz.func82, Tryz.ntmps82
  go_wp2_with fail
  refine hcall.mono ?_
  rintro e w1 ⟨rfl, hP, hK⟩
  have hcall2 := num_le S w1 _ hP (by rw [List.length_drop]; omega)
  have HF := Lib.hid hK
  clear hcall hP hK
  go_wp2_with fail
  refine hcall2.mono ?_
  rintro e w2 ⟨rfl, hP, hK⟩
  rw [List.drop_drop] at hP
  have HG := Lib.hid (⟨hP, HF.out.same hK⟩ : Prs S w2 (l.drop 8) ∧ _)
  clear hcall2 hP hK
  go_wp2_with fail
  go_ret2
  exact ⟨rfl, HG.out⟩

theorem float_be (S : Psr) (w : World) (l : By.Bs) (h : Prs S w l) (hl : 8 ≤ l.length) :
    Calls Tryz.prog 82 #[.pointer (some ⟨S.rb, 0, none⟩), .bool true] w fun e w' => e = .returned (.tuple #[.float .f64 (By.u64 false l), .bool true]) ∧ Prs S w' (l.drop 8) ∧ Kept (Rb S) w w' := by
  have hcall := num_be S w l h (by omega)
  have hk := call_frombits
  have e1 := By.u32_lt false l
  have e2 := By.u32_lt false (l.drop 4)
  have hv : ((By.u64 false l : Nat) : Int) = ((By.u32 false (l.drop 4) : Nat) : Int) + ((By.u32 false l : Nat) : Int) * 4294967296 := by
    rw [u64_split _ _ (by omega)]
    simp only [if_true, Bool.false_eq_true, if_false]
    omega
  have hw : bits .or .u64 (((By.u32 false l : Nat) : Int) * 4294967296) ((By.u32 false (l.drop 4) : Nat) : Int) = ((By.u64 false l : Nat) : Int) := by
    rw [bits_or_comm64, u64_or32 (y := ((By.u32 false (l.drop 4) : Nat) : Int)) (x := ((By.u32 false l : Nat) : Int) * 4294967296) (by omega) (by omega) (by omega) (by omega) (by omega), hv]
  have hwr1 := IntWalk.u64_in (((By.u32 false l : Nat) : Int) * 4294967296) (by omega)
  have hwr2 := IntWalk.u64_in (((By.u32 false (l.drop 4) : Nat) : Int) * 4294967296) (by omega)
  clear h hv
  go_enter Tryz.func82, Tryz.ntmps82
  go_wp2_with fail
  refine hcall.mono ?_
  rintro e w1 ⟨rfl, hP, hK⟩
  have hcall2 := num_be S w1 _ hP (by rw [List.length_drop]; omega)
  have HF := Lib.hid hK
  clear hcall hP hK
  go_wp2_with fail
  refine hcall2.mono ?_
  rintro e w2 ⟨rfl, hP, hK⟩
  rw [List.drop_drop] at hP
  have HG := Lib.hid (⟨hP, HF.out.same hK⟩ : Prs S w2 (l.drop 8) ∧ _)
  clear hcall2 hP hK
  go_wp2_with fail
  go_ret2
  exact ⟨rfl, HG.out⟩
end Go.Proofs.YtjbjjphgnilhmaaGreatDoor
