/- A reader over bytes: its state, and the walks of (*bytes.Reader).Read, io.ReadAtLeast, io.ReadFull. -/
import Derived.Test.YtjbjjphgnilhmaaGreatDoorBs
import Derived.StillTailTactics
import Derived.Laws.CopyOwn
import Derived.Deep.RegionHeld3
import Derived.LaidEql
set_option linter.unusedVariables false
namespace Go.Proofs.YtjbjjphgnilhmaaGreatDoor
open Go.RowKit
variable {A : Addr → Prop}

/-- Where a reader lies, and over what. -/
structure Src where
  rb : Nat
  n : Nat
  c : Nat
  ao : Option Addr
  data : By.Bs
structure Src.Ok (S : Src) (w : World) : Prop where
  len : S.data.length = S.n
  cap : S.n ≤ S.c
  small : S.n ≤ 2147483647
  at_ : S.n = 0 ∨ ∃ db off, S.ao = some ⟨db, off, none⟩ ∧ db < S.rb ∧ BytesAt w db off S.data
/-- A reader that has l before it. -/
def Rd (S : Src) (w : World) (l : By.Bs) : Prop := S.Ok w ∧ ∃ (i : Nat) (pr : Int), i ≤ S.n ∧ l = S.data.drop i ∧ Blk w S.rb #[.slice S.ao S.n S.c, .int .i64 i, .int .i64 pr] 109
theorem Src.Ok.kept {S : Src} {X : Nat → Prop} {w w' : World} (h : S.Ok w) (hk : Kept X w w') (hX : ∀ k, X k → S.rb ≤ k) : S.Ok w' :=
  ⟨h.len, h.cap, h.small, h.at_.imp id fun ⟨db, off, h1, h2, h3⟩ => ⟨db, off, h1, h2, hk.bytes h3 fun hx => by have := hX db hx; omega⟩⟩
theorem Rd.kept {S : Src} {X : Nat → Prop} {w w' : World} {l : By.Bs} (h : Rd S w l) (hk : Kept X w w') (hX : ∀ k, X k → S.rb < k) : Rd S w' l := by
  obtain ⟨ho, i, pr, h1, h2, h3⟩ := h
  exact ⟨ho.kept hk fun k hx => Nat.le_of_lt (hX k hx), i, pr, h1, h2, (hk.block S.rb h3.lt (fun hx => by have := hX _ hx; omega)).trans h3⟩
theorem Rd.lt {S : Src} {w : World} {l : By.Bs} (h : Rd S w l) : S.rb < w.heap.size := by
  obtain ⟨_, i, pr, _, _, h3⟩ := h
  exact h3.lt
theorem Rd.len {S : Src} {w : World} {l : By.Bs} (h : Rd S w l) : l.length ≤ 2147483647 := by
  obtain ⟨ho, i, pr, h1, rfl, _⟩ := h
  have := ho.len
  have := ho.small
  rw [List.length_drop]; omega
def byteV (x : UInt8) : Value := .int .u8 x.toNat
/-- The bytes of a buffer of eight. -/
def Buf (w : World) (bb : Nat) (cur : List Value) : Prop := cur.length = 8 ∧ w.heap[bb]? = some (.cells cur.toArray 5 (0, 0))
theorem Buf.kept {X : Nat → Prop} {w w' : World} {bb : Nat} {cur : List Value} (h : Buf w bb cur) (hk : Kept X w w') (hX : ¬ X bb) : Buf w' bb cur :=
  ⟨h.1, (hk.block bb (Array.getElem?_eq_some_iff.1 h.2).1 hX).trans h.2⟩
theorem Kept.setRow {X : Nat → Prop} {w w1 : World} (h : Kept X w w1) (g : Nat) (cs : Array Value) (hg : w.heap.size ≤ g ∨ X g) : Kept X w (w1.setRow g cs) :=
  ⟨h.os, h.tape, h.output, by have := h.size; simpa using this, fun k hk hX => (setRow_other w1 g k cs (fun e => hg.elim (fun h => by omega) (fun h => hX (e ▸ h)))).trans (h.block k hk hX)⟩

theorem size5 : (Tryz.prog.info? 5).map (·.size) = some 1 := by kernel_rfl
theorem read_none (S : Src) (dv : Value) (w : World) (h : Rd S w []) (he : Errs A w) :
    Calls Tryz.prog 109 #[.pointer (some ⟨S.rb, 0, none⟩), dv] w fun e w' => ∃ a : {a // A a}, w.cell? ⟨0, 0, none⟩ = some (.iface 203 (.pointer (some a))) ∧ e = .returned (.tuple #[.int .i64 0, .iface 203 (.pointer (some a))]) ∧ ∃ q, w' = w.drewN q := by
  obtain ⟨ho, i, pr, h1, h2, h3⟩ := h
  obtain ⟨a, ha⟩ := he 0 (by omega) (by omega)
  have hin : i = S.n := by have := congrArg List.length h2; rw [List.length_drop, ho.len] at this; simp at this; omega
  subst hin
  obtain ⟨c0, _⟩ := h3.cell (i := 0) rfl
  obtain ⟨c1, _⟩ := h3.cell (i := 1) rfl
  clear ho h1 h2 h3 he
  go_enter Tryz.func109, Tryz.ntmps109
  go_wp2_with fail
  go_quiet (fail)
  go_wp2_with fail
  go_quiet (fail)
  go_wp2_with fail
  go_ret2
  exact ⟨a, ha, rfl, _, World.drewN_drewN _ _ _⟩
set_option maxRecDepth 100000 in
theorem read_some (S : Src) (bb p k cp : Nat) (cur : List Value) (w : World) (l : By.Bs) (hl : l ≠ []) (h : Rd S w l) (hb : Buf w bb cur) (hbb : S.rb < bb) (hfit : p + k ≤ 8) :
    Calls Tryz.prog 109 #[.pointer (some ⟨S.rb, 0, none⟩), .slice (some ⟨bb, p, none⟩) k cp] w fun e w' => e = .returned (.tuple #[.int .i64 (((l.take k).length : Nat) : Int), .nilIface]) ∧ Rd S w' (l.drop (l.take k).length) ∧ Buf w' bb (splice cur p ((l.take k).map byteV)) ∧ Kept (fun b => b = S.rb ∨ b = bb) w w' := by
  obtain ⟨ho, i, pr, h1, h2, h3⟩ := h
  have hlen : l.length = S.n - i := by rw [h2, List.length_drop, ho.len]
  have hpos : 0 < l.length := List.length_pos_iff.2 hl
  obtain ⟨db, off, hao, hdb, hx⟩ := ho.at_.resolve_left (by omega)
  obtain ⟨c0, f0⟩ := h3.cell (i := 0) rfl
  obtain ⟨c1, f1⟩ := h3.cell (i := 1) rfl
  obtain ⟨c2, f2⟩ := h3.cell (i := 2) rfl
  have hn31 := ho.small
  have HA := Lib.hid hao
  rw [hao] at c0
  obtain ⟨o2, hs2, ho2⟩ := from_run db off S.n S.c i (i : Int) rfl h1 ho.cap
  have FB := from_bytes hx ho.len ho.cap h1 ho2
  rw [← h2] at FB
  have hge := decide_eq_false (show ¬ S.n ≤ i by omega)
  have HH := Lib.hid (⟨ho, h1, h2, h3, FB, hb, hlen⟩ : _ ∧ _ ∧ _ ∧ _ ∧ _ ∧ _ ∧ _)
  clear ho h2 h3 FB hb hx ho2 hao hlen
  go_enter Tryz.func109, Tryz.ntmps109
  go_wp2_with fail
  go_quiet (fail)
  go_wp2_with fail
  obtain ⟨W1, hW1⟩ : ∃ W, W = (w.setCell ⟨S.rb, 2, none⟩ (.int .i64 (-1))).drewN nq := ⟨_, rfl⟩
  rw [← hW1]
  have K1 : Kept (fun b => b = S.rb) w W1 := by rw [hW1]; exact ((Kept.refl (fun b => b = S.rb) w).setCell ⟨S.rb, 2, none⟩ _ (.inr rfl)).drewN nq
  have B1 : Blk W1 S.rb #[.slice S.ao S.n S.c, .int .i64 i, .int .i64 (-1)] 109 := by rw [hW1]; exact (HH.out.2.2.2.1.set 2 (.int .i64 (-1))).drewN nq
  have D1 : Buf W1 bb cur := HH.out.2.2.2.2.2.1.kept K1 (by omega)
  have X1 : BytesAt W1 db o2 l := K1.bytes HH.out.2.2.2.2.1.2.2 (by omega)
  obtain ⟨d0, _⟩ := B1.cell (i := 0) rfl
  obtain ⟨d1, _⟩ := B1.cell (i := 1) rfl
  rw [HA.out] at d0
  have HK1 := Lib.hid (⟨K1, B1, D1, X1⟩ : _ ∧ _ ∧ _ ∧ _)
  clear c0 c1 c2 f0 f1 f2 hW1 K1 B1 D1 X1
  go_still_tail 10, (by kernel_rfl)
  obtain ⟨W2, hW2⟩ : ∃ W, W = W1.drew := ⟨_, rfl⟩
  change wpList _ _ _ _ _ W1.drew
  rw [← hW2]
  have K2 : Kept (fun b => b = S.rb) w W2 := by rw [hW2]; exact HK1.out.1.drew
  have B2 : Blk W2 S.rb #[.slice S.ao S.n S.c, .int .i64 i, .int .i64 (-1)] 109 := by rw [hW2]; exact HK1.out.2.1
  have D2 : Buf W2 bb cur := by rw [hW2]; exact HK1.out.2.2.1
  have X2 : BytesAt W2 db o2 l := by rw [hW2]; exact HK1.out.2.2.2
  obtain ⟨cs, hcs⟩ : ∃ cs, cs = (l.take k).map byteV := ⟨_, rfl⟩
  have hcl : cs.length = Nat.min (S.n - i) k := by rw [hcs, List.length_map, List.length_take, ← HH.out.2.2.2.2.2.2, Nat.min_comm]
  have hcl2 : cs.length = (l.take k).length := by rw [hcs, List.length_map]
  have hk8 : cs.length ≤ k := by rw [hcl]; exact Nat.min_le_right _ _
  have hkl : cs.length ≤ S.n - i := by rw [hcl]; exact Nat.min_le_left _ _
  have hoth : ∀ R : Array Value, Blk (W2.setRow bb R) S.rb #[.slice S.ao S.n S.c, .int .i64 i, .int .i64 (-1)] 109 := fun R => (setRow_other W2 bb S.rb R (by omega)).trans B2
  have e1 : ∀ R : Array Value, (W2.setRow bb R).cell? ⟨S.rb, 1, none⟩ = some (.int .i64 i) := fun R => ((hoth R).cell (i := 1) rfl).1
  have g1 : ∀ R : Array Value, (W2.setRow bb R).frozen? ⟨S.rb, 1, none⟩ = false := fun R => ((hoth R).cell (i := 1) (v := .int .i64 i) rfl).2
  have hj : IntKind.i64.wrap ((i : Int) + (cs.length : Int)) = (i : Int) + (cs.length : Int) := IntWalk.i64_in _ (by omega)
  have HCS := Lib.hid (⟨hcs, hcl, hcl2, hk8, hkl⟩ : _ ∧ _ ∧ _ ∧ _ ∧ _)
  have HK2 := Lib.hid (⟨K2, hoth, D2, X2⟩ : _ ∧ _ ∧ _ ∧ _)
  clear hcs hcl hcl2 hk8 hkl d0 d1 hW2 K2 B2 D2 X2 hoth HK1
  go_wp2_with (with_reducible refine wpList_copy_own rfl (.tmp 20) (.tmp 29) 22 22 rfl 5 Tryz.underlying22 size5 bb p k cp ⟨db, o2, none⟩ (S.n - i) (S.c - i) rfl rfl cur.toArray 5 ?hg cs ?hn ?hsrc ?hfit ?h1 ?_)
  case hg => exact HK2.out.2.2.1.2
  case hn => exact HCS.out.2.1
  case hsrc =>
    intro j v hv
    rw [HCS.out.1, List.getElem?_map] at hv
    obtain ⟨x, hx, rfl⟩ := Option.map_eq_some_iff.1 hv
    have hjk : j < k := by have := (List.getElem?_eq_some_iff.1 hx).1; rw [List.length_take] at this; omega
    rw [List.getElem?_take_of_lt hjk] at hx
    have := HK2.out.2.2.2 j x hx
    have ea : (⟨db, o2, none⟩ : Addr).add j = ⟨db, o2 + j, none⟩ := by
      unfold Addr.add
      split
      · simp_all
      · rfl
    rw [ea]
    exact this
  case hfit => have := HK2.out.2.2.1.1; have := HCS.out.2.2.2.1; simp; omega
  case h1 =>
    intro v hv
    rw [HCS.out.1] at hv
    obtain ⟨x, _, rfl⟩ := List.mem_map.1 hv
    rfl
  go_ret2
  have K3 : Kept (fun b => b = S.rb ∨ b = bb) w (W2.setRow bb (cur.toArray.toList.take p ++ (cs ++ cur.toArray.toList.drop (p + cs.length))).toArray) := (HK2.out.1.weaken fun k _ h => Or.inl h).setRow bb _ (.inr (.inr rfl))
  have K4 := K3.setCell ⟨S.rb, 1, none⟩ (.int .i64 ((i : Int) + (cs.length : Int))) (.inr (.inl rfl))
  refine ⟨?_, ⟨?_, ?_⟩, ?_, ?_⟩
  · rw [HCS.out.2.2.1]; rfl
  · exact HH.out.1.kept K4 (fun k hk => by rcases hk with rfl | rfl <;> omega)
  · refine ⟨i + cs.length, -1, by have := HCS.out.2.2.2.2; omega, ?_, ?_⟩
    · rw [← HCS.out.2.2.1, HH.out.2.2.1, List.drop_drop]
    · have := (HK2.out.2.1 (cur.toArray.toList.take p ++ (cs ++ cur.toArray.toList.drop (p + cs.length))).toArray).set 1 (.int .i64 ((i : Int) + (cs.length : Int)))
      simpa using this
  · rw [← HCS.out.1]
    refine ⟨?_, ?_⟩
    · rw [length_splice _ _ _ (by have := HK2.out.2.2.1.1; have := HCS.out.2.2.2.1; omega)]; exact HK2.out.2.2.1.1
    · refine (Below.heap_setCell _ _ _ bb (by show bb ≠ S.rb; omega)).trans ?_
      have := setRow_heap W2 bb cur.toArray (splice cur p cs).toArray 5 (0, 0) HK2.out.2.2.1.2
      simpa [splice] using this
  · exact K4

theorem comp203 : (Tryz.prog.info? 203).map (·.comparable) = some true := by kernel_rfl
theorem eql_err_of (a b : Addr) (r : Bool) (w : World) (h : (sameAddr a b).run Tryz.prog w = .ok r w) : (binOp .eql 41 (.iface 203 (.pointer (some a))) (.iface 203 (.pointer (some b)))).run Tryz.prog w = .ok (.bool r) w := by
  have hc := comp203
  cases hi : Tryz.prog.info? 203 with
  | none => simp [hi] at hc
  | some i =>
    have hcc : i.comparable = true := by simpa [hi] using hc
    have h : ∀ d : Nat, (Op.equalIn (d + 2) 41 (.iface 203 (.pointer (some a))) (.iface 203 (.pointer (some b)))).run Tryz.prog w = .ok r w := fun d => by
      simp [Op.equalIn, run_underlying Tryz.underlying41, run_underlying Tryz.underlying203, typeInfo, hi, hcc, h]
    simp only [binOp]
    simp [Op.equal, Op.maxDepth, h 9998]
theorem eql_err_same (a : Addr) (w : World) : (binOp .eql 41 (.iface 203 (.pointer (some a))) (.iface 203 (.pointer (some a)))).run Tryz.prog w = .ok (.bool true) w :=
  eql_err_of a a true w (run_sameAddr_same w a)
theorem kept_un {X : Nat → Prop} {w w' : World} {q : Nat} (h : Kept X (w.drewN q) w') : Kept X w w' := ⟨h.os, h.tape, h.output, h.size, h.block⟩
theorem nil_ahead (a : Addr) (w : World) : (nilAhead 333 60 (.pointer (some a)) "Read").run Tryz.prog w = .ok (some false) w := by kernel_rfl
theorem method_read (a : Addr) (w : World) : (method 333 60 (.pointer (some a)) "Read").run Tryz.prog w = .ok (109, .pointer (some a)) w := by kernel_rfl
set_option maxRecDepth 100000 in
/-- All that is asked for is there. -/
theorem ral_full (S : Src) (bb k cp : Nat) (cur : List Value) (w : World) (l : By.Bs) (hk : 0 < k) (hcp : k ≤ cp) (hl : k ≤ l.length) (h : Rd S w l) (hb : Buf w bb cur) (hbb : S.rb < bb) (hfit : k ≤ 8) :
    Calls Tryz.prog 92 #[.iface 60 (.pointer (some ⟨S.rb, 0, none⟩)), .slice (some ⟨bb, 0, none⟩) k cp, .int .i64 k] w fun e w' => e = .returned (.tuple #[.int .i64 k, .nilIface]) ∧ Rd S w' (l.drop k) ∧ Buf w' bb (splice cur 0 ((l.take k).map byteV)) ∧ Kept (fun b => b = S.rb ∨ b = bb) w w' := by
  have htl : (l.take k).length = k := by rw [List.length_take]; omega
  have hcall := fun q => read_some S bb 0 k cp cur (w.drewN q) l (by intro h; subst h; simp at hl; omega) (h.kept ((Kept.refl (fun _ => False) w).drewN q) (fun _ h => h.elim)) (hb.kept ((Kept.refl (fun _ => False) w).drewN q) (fun h => h)) hbb (by omega)
  rw [htl] at hcall
  have HC := Lib.hid hcall
  have hk' : (0 : Int) < k := by omega
  have hc0 : ¬ cp = 0 := by omega
  have hn1 := nil_ahead
  have hn2 := method_read
  clear h hb hl htl hcall
  go_enter Tryz.func92, Tryz.ntmps92
  go_wp2_with fail
  refine wp_loop_rounds 2 ?_
  rw [rounds_succ]
  go_wp2_with fail
  go_region_held3 (fun w' => True) (exact trivial) ((go_at_call 109; refine (HC.out _).mono ?_; rintro e w1 ⟨rfl, hR, hB, hK⟩))
  have HF := Lib.hid (⟨hR, hB, hK⟩ : _ ∧ _ ∧ _)
  clear hR hB hK HC
  go_wp2_with fail
  rw [rounds_succ]
  go_wp2_with fail
  go_ret2
  exact ⟨rfl, HF.out.1, HF.out.2.1, kept_un HF.out.2.2⟩
/-- What an asked reader gives that has less. -/
def LessRead (A : Addr → Prop) (S : Src) (bb : Nat) (w : World) (e : Ending) (w' : World) : Prop := ∃ (m : Int) (a : {a // A a}), e = .returned (.tuple #[.int .i64 m, .iface 203 (.pointer (some a))]) ∧ Kept (fun b => b = S.rb ∨ b = bb) w w'
set_option maxRecDepth 100000 in
/-- Nothing is there. -/
theorem ral_none (S : Src) (bb k cp : Nat) (w : World) (hk : 0 < k) (hcp : k ≤ cp) (h : Rd S w []) (he : Errs A w) :
    Calls Tryz.prog 92 #[.iface 60 (.pointer (some ⟨S.rb, 0, none⟩)), .slice (some ⟨bb, 0, none⟩) k cp, .int .i64 k] w (LessRead A S bb w) := by
  have hcall := fun q dv => read_none S dv (w.drewN q) (h.kept ((Kept.refl (fun _ => False) w).drewN q) (fun _ h => h.elim)) (errs_drewN he q)
  have HC := Lib.hid hcall
  have hk' : (0 : Int) < k := by omega
  have hc0 : ¬ cp = 0 := by omega
  have hn1 := nil_ahead
  have hn2 := method_read
  clear h he hcall
  go_enter Tryz.func92, Tryz.ntmps92
  go_wp2_with fail
  refine wp_loop_rounds 2 ?_
  rw [rounds_succ]
  go_wp2_with fail
  go_region_held3 (fun w' => True) (exact trivial) ((go_at_call 109; refine (HC.out _ _).mono ?_; rintro e w1 ⟨a, ha, rfl, q2, rfl⟩))
  clear HC
  go_wp2_with fail
  rw [rounds_succ]
  go_wp2_with fail
  go_ret2
  exact ⟨_, a, rfl, ((Kept.refl _ _).drewN _)⟩
set_option maxRecDepth 100000 in
/-- Something is there, but less. -/
theorem ral_less (S : Src) (bb k cp : Nat) (cur : List Value) (w : World) (l : By.Bs) (hne : l ≠ []) (hcp : k ≤ cp) (hl : l.length < k) (h : Rd S w l) (hb : Buf w bb cur) (hbb : S.rb < bb) (hfit : k ≤ 8) (he : Errs A w) (h13 : 13 ≤ S.rb) :
    Calls Tryz.prog 92 #[.iface 60 (.pointer (some ⟨S.rb, 0, none⟩)), .slice (some ⟨bb, 0, none⟩) k cp, .int .i64 k] w (LessRead A S bb w) := by
  have hpos : 0 < l.length := List.length_pos_iff.2 hne
  have htl : l.take k = l := List.take_of_length_le (by omega)
  have hcall := fun q => read_some S bb 0 k cp cur (w.drewN q) l hne (h.kept ((Kept.refl (fun _ => False) w).drewN q) (fun _ h => h.elim)) (hb.kept ((Kept.refl (fun _ => False) w).drewN q) (fun h => h)) hbb (by omega)
  rw [htl, List.drop_length] at hcall
  have hcall2 := fun (W : World) (hR : Rd S W []) (hE : Errs A W) dv q => read_none S dv (W.drewN q) (hR.kept ((Kept.refl (fun _ => False) W).drewN q) (fun _ h => h.elim)) (errs_drewN hE q)
  have HC := Lib.hid hcall
  have HC2 := Lib.hid hcall2
  have HE := Lib.hid he
  have hk' : (0 : Int) < k := by omega
  have hc0 : ¬ cp = 0 := by omega
  have hn1 := nil_ahead
  have hn2 := method_read
  obtain ⟨m, hm⟩ : ∃ m, m = l.length := ⟨_, rfl⟩
  rw [← hm] at hl hpos
  have HM := Lib.hid hm
  have hm1 : (m : Int) < k := by omega
  have hm2 : ¬ cp = m := by omega
  have hm3 : (m : Int) ≤ k := by omega
  have hm4 : (0 : Int) < m := by omega
  clear h hb htl hcall hcall2 he hm
  go_enter Tryz.func92, Tryz.ntmps92
  go_wp2_with fail
  refine wp_loop_rounds 3 ?_
  rw [rounds_succ]
  go_wp2_with fail
  go_region_held3 (fun w' => True) (exact trivial) ((go_at_call 109; refine (HC.out _).mono ?_; rw [← HM.out]; rintro e w1 ⟨rfl, hR, hB, hK⟩))
  have HF := Lib.hid (kept_un hK)
  have HR := Lib.hid hR
  have hE1 := HE.out.kept (kept_un hK) (fun b hb => by rcases hb with rfl | rfl <;> omega)
  have HE1 := Lib.hid hE1
  clear hR hB hK HC hE1
  go_wp2_with fail
  rw [rounds_succ]
  go_wp2_with fail
  obtain ⟨a1, ha1⟩ := HE1.out 1 (by omega) (by omega)
  go_region_held3 (fun w' => True) (exact trivial) ((go_at_call 109; refine (HC2.out w1 HR.out HE1.out _ _).mono ?_; rintro e w2 ⟨a, ha, rfl, q2, rfl⟩))
  have ha' : w1.cell? ⟨0, 0, none⟩ = some (.iface 203 (.pointer (some a.1))) := ha
  have heq := fun w => eql_err_same a.1 w
  clear ha HC2
  go_wp2_with fail
  rw [rounds_succ]
  go_wp2_with fail
  go_ret2
  exact ⟨_, a1, rfl, HF.out.drewN _⟩
theorem ral_short (S : Src) (bb k cp : Nat) (cur : List Value) (w : World) (l : By.Bs) (hcp : k ≤ cp) (hl : l.length < k) (h : Rd S w l) (hb : Buf w bb cur) (hbb : S.rb < bb) (hfit : k ≤ 8) (he : Errs A w) (h13 : 13 ≤ S.rb) :
    Calls Tryz.prog 92 #[.iface 60 (.pointer (some ⟨S.rb, 0, none⟩)), .slice (some ⟨bb, 0, none⟩) k cp, .int .i64 k] w (LessRead A S bb w) := by
  by_cases hne : l = []
  · subst hne
    exact ral_none S bb k cp w (by simp at hl; omega) hcp h he
  · exact ral_less S bb k cp cur w l hne hcp hl h hb hbb hfit he h13
/-- io.ReadFull. -/
theorem rf_full (S : Src) (bb k cp : Nat) (cur : List Value) (w : World) (l : By.Bs) (hk : 0 < k) (hcp : k ≤ cp) (hl : k ≤ l.length) (h : Rd S w l) (hb : Buf w bb cur) (hbb : S.rb < bb) (hfit : k ≤ 8) :
    Calls Tryz.prog 84 #[.iface 60 (.pointer (some ⟨S.rb, 0, none⟩)), .slice (some ⟨bb, 0, none⟩) k cp] w fun e w' => e = .returned (.tuple #[.int .i64 k, .nilIface]) ∧ Rd S w' (l.drop k) ∧ Buf w' bb (splice cur 0 ((l.take k).map byteV)) ∧ Kept (fun b => b = S.rb ∨ b = bb) w w' := by
  have hcall := Lib.hid (ral_full S bb k cp cur w l hk hcp hl h hb hbb hfit)
  clear h hb hl
  go_enter Tryz.func84, Tryz.ntmps84
  go_wp2_with fail
  refine hcall.out.mono ?_
  rintro e w1 ⟨rfl, hR, hB, hK⟩
  have HF := Lib.hid (⟨hR, hB, hK⟩ : _ ∧ _ ∧ _)
  clear hR hB hK hcall
  go_wp2_with fail
  go_ret2
  exact ⟨rfl, HF.out⟩
theorem rf_short (S : Src) (bb k cp : Nat) (cur : List Value) (w : World) (l : By.Bs) (hcp : k ≤ cp) (hl : l.length < k) (h : Rd S w l) (hb : Buf w bb cur) (hbb : S.rb < bb) (hfit : k ≤ 8) (he : Errs A w) (h13 : 13 ≤ S.rb) :
    Calls Tryz.prog 84 #[.iface 60 (.pointer (some ⟨S.rb, 0, none⟩)), .slice (some ⟨bb, 0, none⟩) k cp] w (LessRead A S bb w) := by
  have hcall := Lib.hid (ral_short S bb k cp cur w l hcp hl h hb hbb hfit he h13)
  clear h hb hl he
  go_enter Tryz.func84, Tryz.ntmps84
  go_wp2_with fail
  refine hcall.out.mono ?_
  rintro e w1 ⟨m, a, rfl, hK⟩
  have HF := Lib.hid hK
  clear hK hcall
  go_wp2_with fail
  go_ret2
  exact ⟨m, a, rfl, HF.out⟩
end Go.Proofs.YtjbjjphgnilhmaaGreatDoor