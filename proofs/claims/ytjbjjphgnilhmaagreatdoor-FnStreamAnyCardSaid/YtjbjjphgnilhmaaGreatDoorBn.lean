/- The walks of wkbcommon.Unmarshal, mapCommonError, wkb.Unmarshal, bytes.NewReader, wkb.NewDecoder and (*wkb.Decoder).Decode. -/
import Derived.Test.YtjbjjphgnilhmaaGreatDoorBj
set_option linter.unusedVariables false
namespace Go.Proofs.YtjbjjphgnilhmaaGreatDoor
open Go.RowKit
variable {A : Addr → Prop}

/-- The errors are known, and lie where errors lie. -/
structure EK (A : Addr → Prop) (w : World) : Prop where
  errs : Errs A w
  known : ∀ a, A a → ∃ c : Array Value × TypeId, w.heap[a.block]? = some (.cells c.1 c.2 (0, 0))
theorem EK.below {w w' : World} (h : EK A w) (hb : Below w.heap.size w w') : EK A w' :=
  ⟨h.errs.below hb, fun a ha => by
    obtain ⟨c, hc⟩ := h.known a ha
    exact ⟨c, (hb.block a.block (Array.getElem?_eq_some_iff.1 hc).1).trans hc⟩⟩
theorem EK.at {w : World} {a : Addr} (h : EK A w) (ha : EAt A w a) : ∃ c : Array Value × TypeId, w.heap[a.block]? = some (.cells c.1 c.2 (0, 0)) := ha.elim (h.known a) fun ⟨c, hc⟩ => ⟨(c, 205), hc⟩
theorem eql_err {w : World} {a b : Addr} {ca cb : Array Value × TypeId} (ha : w.heap[a.block]? = some (.cells ca.1 ca.2 (0, 0))) (hb : w.heap[b.block]? = some (.cells cb.1 cb.2 (0, 0))) :
    (binOp .eql 41 (.iface 203 (.pointer (some a))) (.iface 203 (.pointer (some b)))).run Tryz.prog w = .ok (.bool (decide (a = b))) w := by
  by_cases h : a = b
  · subst h
    rw [decide_eq_true rfl]
    exact eql_err_same a w
  · rw [decide_eq_false h]
    exact eql_err_of a b false w (run_sameAddr_other w h ha hb)
theorem eql_nil (v : Value) (w : World) : (binOp .eql 41 .nilIface (.iface 203 v)).run Tryz.prog w = .ok (.bool false) w := run_eql_iface_nil_left w 203 v Tryz.underlying41
set_option maxRecDepth 100000 in
theorem map_err (a : Addr) (w : World) (hk : EK A w) (ha : ∃ c : Array Value × TypeId, w.heap[a.block]? = some (.cells c.1 c.2 (0, 0))) :
    Calls Tryz.prog 23 #[.iface 203 (.pointer (some a))] w fun e w' => (∃ b : Addr, e = .returned (.iface 203 (.pointer (some b)))) ∧ w' = w := by
  obtain ⟨c, hc⟩ := ha
  obtain ⟨a2, h2⟩ := hk.errs 2 (by omega) (by omega)
  obtain ⟨a3, h3⟩ := hk.errs 3 (by omega) (by omega)
  obtain ⟨a4, h4⟩ := hk.errs 4 (by omega) (by omega)
  obtain ⟨a5, h5⟩ := hk.errs 5 (by omega) (by omega)
  obtain ⟨a6, h6⟩ := hk.errs 6 (by omega) (by omega)
  obtain ⟨a7, h7⟩ := hk.errs 7 (by omega) (by omega)
  obtain ⟨a8, h8⟩ := hk.errs 8 (by omega) (by omega)
  obtain ⟨a9, h9⟩ := hk.errs 9 (by omega) (by omega)
  obtain ⟨a10, h10⟩ := hk.errs 10 (by omega) (by omega)
  obtain ⟨c2, k2⟩ := hk.known a2.1 a2.2
  obtain ⟨c3, k3⟩ := hk.known a3.1 a3.2
  obtain ⟨c4, k4⟩ := hk.known a4.1 a4.2
  obtain ⟨c7, k7⟩ := hk.known a7.1 a7.2
  obtain ⟨c8, k8⟩ := hk.known a8.1 a8.2
  have e2 := eql_err hc k2
  have e3 := eql_err hc k3
  have e4 := eql_err hc k4
  have e7 := eql_err hc k7
  have e8 := eql_err hc k8
  clear hk hc k2 k3 k4 k7 k8
  go_enter Tryz.func23, Tryz.ntmps23
  go_wp2_with fail
  all_goals
    go_ret
    exact ⟨⟨_, rfl⟩, rfl⟩

/-- What Unmarshal gives. -/
def GetsU (A : Addr → Prop) (f : Nat) (o : Option By.G) (w : World) (e : Ending) (w' : World) : Prop := match o with
  | some g => ∃ u s K, e = .returned (.tuple #[u, .int .i64 s, .nilIface]) ∧ IsG f K u g ∧ Has w.heap.size K w' ∧ Below w.heap.size w w'
  | none => ∃ (a : Addr) (s : Int), EAt A w' a ∧ e = .returned (.tuple #[.nilIface, .int .i64 s, .iface 203 (.pointer (some a))]) ∧ Below w.heap.size w w'
theorem newReader (ao : Option Addr) (n c : Nat) (w : World) : Calls Tryz.prog 20 #[.slice ao n c] w fun e w' => e = .returned (.pointer (some ⟨w.heap.size, 0, none⟩)) ∧ Blk w' w.heap.size #[.slice ao n c, .int .i64 0, .int .i64 (-1)] 109 ∧ Below w.heap.size w w' := by
  go_enter Tryz.func20, Tryz.ntmps20
  go_wp2_with fail
  go_ret
  exact ⟨rfl, Blk.new w _ _, (Below.refl _ _).alloc (Nat.le_refl _) _⟩
theorem EAt.grow {w0 w w' : World} {a : Addr} (h : EAt A w a) (hb : Below w.heap.size w w') : EAt A w' a := h.below hb
theorem reader_start {w w' : World} {ao : Option Addr} {n c : Nat} {l : By.Bs} (hl : l.length = n) (hc : n ≤ c) (h31 : n ≤ 2147483647) (hx : n = 0 ∨ ∃ b off, ao = some ⟨b, off, none⟩ ∧ b < w.heap.size ∧ BytesAt w b off l)
    (hb : Blk w' w.heap.size #[.slice ao n c, .int .i64 0, .int .i64 (-1)] 109) (hw : Below w.heap.size w w') : Rd ⟨w.heap.size, n, c, ao, l⟩ w' l :=
  ⟨⟨hl, hc, h31, hx.imp id fun ⟨b, off, h1, h2, h3⟩ => ⟨b, off, h1, h2, h3.below hw⟩⟩, 0, -1, Nat.zero_le _, rfl, hb⟩


set_option maxRecDepth 100000 in
theorem um_fail (f : Nat) (b off n c : Nat) (l : By.Bs) (w : World) (he : EK A w) (hl : l.length = n) (hc : n ≤ c) (h31 : n ≤ 2147483647) (hx : BytesAt w b off l) (hu : By.uHead l = none) :
    Calls Tryz.prog 22 #[.slice (some ⟨b, off, none⟩) n c] w (GetsU A f none w) := by
  have hcall := ubot_none b off n c l w hu he.errs hl hc hx
  clear he hl hc hx hu
  go_enter Tryz.func22, Tryz.ntmps22
  go_wp2_with fail
  refine hcall.mono ?_
  rintro e w1 ⟨err, ⟨a, rfl⟩, rfl, q, rfl⟩
  clear hcall
  go_wp2_with fail
  go_ret3
  exact ⟨a.1, _, .inl a.2, rfl, below_drewN (Below.refl _ _) _⟩
set_option maxRecDepth 100000 in
theorem um_else (f kk : Nat) (d : By.Bs) (le : Bool) (b off n c : Nat) (l : By.Bs) (w : World) (he : EK A w) (hl : l.length = n) (hc : n ≤ c) (h31 : n ≤ 2147483647) (hx : BytesAt w b off l) (hu : By.uHead l = some (le, kk, d))
    (h1 : ¬ kk = 1) (h2 : ¬ kk = 2) (h3 : ¬ kk = 3) (h4 : ¬ kk = 4) (h5 : ¬ kk = 5) (h6 : ¬ kk = 6) (h7 : ¬ kk = 7) :
    Calls Tryz.prog 22 #[.slice (some ⟨b, off, none⟩) n c] w (GetsU A f none w) := by
  have hcall := ubot_some b off n c l d le kk w hu hl hc hx
  obtain ⟨a3, ha3⟩ := he.errs 3 (by omega) (by omega)
  have g1 : ((kk : Int) == 1) = false := by simp; omega
  have g2 : ((kk : Int) == 2) = false := by simp; omega
  have g3 : ((kk : Int) == 3) = false := by simp; omega
  have g4 : ((kk : Int) == 4) = false := by simp; omega
  have g5 : ((kk : Int) == 5) = false := by simp; omega
  have g6 : ((kk : Int) == 6) = false := by simp; omega
  have g7 : ((kk : Int) == 7) = false := by simp; omega
  clear he hl hc hx hu h1 h2 h3 h4 h5 h6 h7
  go_enter Tryz.func22, Tryz.ntmps22
  go_wp2_with fail
  refine hcall.mono ?_
  rintro e w1 ⟨s, off', n', c', rfl, hl', hc', hx', q, rfl⟩
  clear hcall hl' hc' hx'
  go_wp2_with fail
  go_quiet (fail)
  go_wp2_with fail
  go_ret3
  exact ⟨a3.1, _, .inl a3.2, rfl, below_drewN (below_drewN (Below.refl _ _) _) _⟩


set_option maxRecDepth 100000 in
set_option maxHeartbeats 1000000 in
theorem um_1 (f : Nat) (d : By.Bs) (le : Bool) (b off n c : Nat) (l : By.Bs) (w : World) (he : EK A w) (hl : l.length = n) (hc : n ≤ c) (h31 : n ≤ 2147483647) (hx : BytesAt w b off l) (hu : By.uHead l = some (le, 1, d)) :
    Calls Tryz.prog 22 #[.slice (some ⟨b, off, none⟩) n c] w (GetsU A (f + 1) (((By.uPoint le d)).map By.G.pt) w) := by
  have hcall := ubot_some b off n c l d le 1 w hu hl hc hx
  have hdl := By.uHead_some hu
  simp only at hdl
  have HE := Lib.hid he
  have HL := Lib.hid (⟨hl, hc, h31, hdl⟩ : _ ∧ _ ∧ _ ∧ _)
  clear he hl hc h31 hdl hx hu
  go_enter Tryz.func22, Tryz.ntmps22
  go_wp2_with fail
  refine hcall.mono ?_
  rintro e w1 ⟨s, off', n', c', rfl, hl', hc', hx', q, rfl⟩
  have HX := Lib.hid (⟨hl', hc', bytes_drewN hx' q⟩ : _ ∧ _ ∧ _)
  clear hcall hl' hc' hx'
  rcases hs : (By.uPoint le d) with _ | p
  · have hcall2 := upt_none le (some ⟨b, off', none⟩) n' c' d (w.drewN q) hs (errs_drewN HE.out.errs q) HX.out.1 (ordI le)
    have HS : Hid (((By.uPoint le d)).map By.G.pt = none) := Lib.hid (by rw [hs]; rfl)
    clear HX HL hs
    go_wp2_with fail
    refine hcall2.mono ?_
    rintro e w2 ⟨a, rfl, hb⟩
    have HB := Lib.hid (below_un hb)
    clear hcall2 hb
    go_wp2_with fail
    go_ret3
    rw [HS.out]
    exact ⟨a.1, _, .inl a.2, rfl, HB.out⟩
  · have hcall2 := upt_some le b off' n' c' d p (w.drewN q) hs HX.out.1 HX.out.2.1 HX.out.2.2
    have HS : Hid (((By.uPoint le d)).map By.G.pt = some (By.G.pt p)) := Lib.hid (by rw [hs]; rfl)
    clear HX HL hs
    go_wp2_with fail
    refine hcall2.mono ?_
    rintro e w2 ⟨rfl, hb⟩
    have HB := Lib.hid (below_un hb)
    clear hcall2 hb
    go_wp2_with fail
    go_ret3
    rw [HS.out]
    exact ⟨_, s, fun _ _ => False, rfl, ⟨_, rfl, rfl⟩, fun _ _ h => h.elim, HB.out⟩


set_option maxRecDepth 100000 in
set_option maxHeartbeats 1000000 in
theorem um_4 (f : Nat) (d : By.Bs) (le : Bool) (b off n c : Nat) (l : By.Bs) (w : World) (he : EK A w) (hl : l.length = n) (hc : n ≤ c) (h31 : n ≤ 2147483647) (hx : BytesAt w b off l) (hu : By.uHead l = some (le, 4, d)) (hf : n ≤ f) :
    Calls Tryz.prog 22 #[.slice (some ⟨b, off, none⟩) n c] w (GetsU A (f + 1) (((By.uMP f le d)).map By.G.mp) w) := by
  have hcall := ubot_some b off n c l d le 4 w hu hl hc hx
  have hdl := By.uHead_some hu
  simp only at hdl
  have HE := Lib.hid he
  have HL := Lib.hid (⟨hl, hc, h31, hdl, hf⟩ : _ ∧ _ ∧ _ ∧ _ ∧ _)
  clear he hl hc h31 hdl hx hu hf
  go_enter Tryz.func22, Tryz.ntmps22
  go_wp2_with fail
  refine hcall.mono ?_
  rintro e w1 ⟨s, off', n', c', rfl, hl', hc', hx', q, rfl⟩
  have HX := Lib.hid (⟨hl', hc', bytes_drewN hx' q⟩ : _ ∧ _ ∧ _)
  clear hcall hl' hc' hx'
  have hcall2 := ump_any f (spt_scanner f) le b off' n' c' d (w.drewN q) (errs_drewN HE.out.errs q) HX.out.1 HX.out.2.1 (by have := HX.out.1; have := HL.out; omega) (by have := HX.out.1; have := HL.out; omega) HX.out.2.2
  clear HX HL
  go_wp2_with fail
  refine hcall2.mono ?_
  intro e w2 hm
  clear hcall2
  rcases hs : (By.uMP f le d) with _ | ls
  · obtain ⟨a, rfl, hb⟩ := hm.none_of hs
    have HB := Lib.hid (below_un hb)
    have HS : Hid (((By.uMP f le d)).map By.G.mp = none) := Lib.hid (by rw [hs]; rfl)
    clear hm hb hs
    go_wp2_with fail
    go_ret3
    rw [HS.out]
    exact ⟨a.1, _, .inl a.2, rfl, HB.out⟩
  · obtain ⟨v, rfl, hR, hb⟩ := hm.some_of hs
    obtain ⟨K, hK, hI⟩ := hR.is
    have HB := Lib.hid (below_un hb)
    have HS : Hid (((By.uMP f le d)).map By.G.mp = some (By.G.mp ls)) := Lib.hid (by rw [hs]; rfl)
    have HF := Lib.hid (⟨hK, hI⟩ : Has w.heap.size K w2 ∧ _)
    clear hm hb hs hR hK hI
    go_wp2_with fail
    go_ret3
    rw [HS.out]
    exact ⟨_, s, K, rfl, ⟨v, rfl, HF.out.2⟩, HF.out.1, HB.out⟩


set_option maxRecDepth 100000 in
set_option maxHeartbeats 1000000 in
theorem um_2 (f : Nat) (d : By.Bs) (le : Bool) (b off n c : Nat) (l : By.Bs) (w : World) (he : EK A w) (hl : l.length = n) (hc : n ≤ c) (h31 : n ≤ 2147483647) (hx : BytesAt w b off l) (hu : By.uHead l = some (le, 2, d)) :
    Calls Tryz.prog 22 #[.slice (some ⟨b, off, none⟩) n c] w (GetsU A (f + 1) (((By.uPoints le d)).map By.G.ln) w) := by
  have hcall := ubot_some b off n c l d le 2 w hu hl hc hx
  have hdl := By.uHead_some hu
  simp only at hdl
  have HE := Lib.hid he
  have HL := Lib.hid (⟨hl, hc, h31, hdl⟩ : _ ∧ _ ∧ _ ∧ _)
  clear he hl hc h31 hdl hx hu
  go_enter Tryz.func22, Tryz.ntmps22
  go_wp2_with fail
  refine hcall.mono ?_
  rintro e w1 ⟨s, off', n', c', rfl, hl', hc', hx', q, rfl⟩
  have HX := Lib.hid (⟨hl', hc', bytes_drewN hx' q⟩ : _ ∧ _ ∧ _)
  clear hcall hl' hc' hx'
  have hcall2 := uls_any le b off' n' c' d (w.drewN q) (errs_drewN HE.out.errs q) HX.out.1 HX.out.2.1 (by have := HX.out.1; have := HL.out; omega) HX.out.2.2
  clear HX HL
  go_wp2_with fail
  refine hcall2.mono ?_
  intro e w2 hm
  clear hcall2
  rcases hs : (By.uPoints le d) with _ | ls
  · obtain ⟨a, rfl, hb⟩ := hm.none_of hs
    have HB := Lib.hid (below_un hb)
    have HS : Hid (((By.uPoints le d)).map By.G.ln = none) := Lib.hid (by rw [hs]; rfl)
    clear hm hb hs
    go_wp2_with fail
    go_ret3
    rw [HS.out]
    exact ⟨a.1, _, .inl a.2, rfl, HB.out⟩
  · obtain ⟨v, rfl, hR, hb⟩ := hm.some_of hs
    obtain ⟨K, hK, hI⟩ := hR.is
    have HB := Lib.hid (below_un hb)
    have HS : Hid (((By.uPoints le d)).map By.G.ln = some (By.G.ln ls)) := Lib.hid (by rw [hs]; rfl)
    have HF := Lib.hid (⟨hK, hI⟩ : Has w.heap.size K w2 ∧ _)
    clear hm hb hs hR hK hI
    go_wp2_with fail
    go_ret3
    rw [HS.out]
    exact ⟨_, s, K, rfl, ⟨v, rfl, HF.out.2⟩, HF.out.1, HB.out⟩


set_option maxRecDepth 100000 in
set_option maxHeartbeats 1000000 in
theorem um_5 (f : Nat) (d : By.Bs) (le : Bool) (b off n c : Nat) (l : By.Bs) (w : World) (he : EK A w) (hl : l.length = n) (hc : n ≤ c) (h31 : n ≤ 2147483647) (hx : BytesAt w b off l) (hu : By.uHead l = some (le, 5, d)) (hf : n ≤ f) :
    Calls Tryz.prog 22 #[.slice (some ⟨b, off, none⟩) n c] w (GetsU A (f + 1) (((By.uML f le d)).map By.G.ml) w) := by
  have hcall := ubot_some b off n c l d le 5 w hu hl hc hx
  have hdl := By.uHead_some hu
  simp only at hdl
  have HE := Lib.hid he
  have HL := Lib.hid (⟨hl, hc, h31, hdl, hf⟩ : _ ∧ _ ∧ _ ∧ _ ∧ _)
  clear he hl hc h31 hdl hx hu hf
  go_enter Tryz.func22, Tryz.ntmps22
  go_wp2_with fail
  refine hcall.mono ?_
  rintro e w1 ⟨s, off', n', c', rfl, hl', hc', hx', q, rfl⟩
  have HX := Lib.hid (⟨hl', hc', bytes_drewN hx' q⟩ : _ ∧ _ ∧ _)
  clear hcall hl' hc' hx'
  have hcall2 := uml_any f (sln_scanner f) le b off' n' c' d (w.drewN q) (errs_drewN HE.out.errs q) HX.out.1 HX.out.2.1 (by have := HX.out.1; have := HL.out; omega) (by have := HX.out.1; have := HL.out; omega) HX.out.2.2
  clear HX HL
  go_wp2_with fail
  refine hcall2.mono ?_
  intro e w2 hm
  clear hcall2
  rcases hs : (By.uML f le d) with _ | ls
  · obtain ⟨a, rfl, hb⟩ := hm.none_of hs
    have HB := Lib.hid (below_un hb)
    have HS : Hid (((By.uML f le d)).map By.G.ml = none) := Lib.hid (by rw [hs]; rfl)
    clear hm hb hs
    go_wp2_with fail
    go_ret3
    rw [HS.out]
    exact ⟨a.1, _, .inl a.2, rfl, HB.out⟩
  · obtain ⟨v, rfl, hR, hb⟩ := hm.some_of hs
    obtain ⟨K, hK, hI⟩ := hR.is
    have HB := Lib.hid (below_un hb)
    have HS : Hid (((By.uML f le d)).map By.G.ml = some (By.G.ml ls)) := Lib.hid (by rw [hs]; rfl)
    have HF := Lib.hid (⟨hK, hI⟩ : Has w.heap.size K w2 ∧ _)
    clear hm hb hs hR hK hI
    go_wp2_with fail
    go_ret3
    rw [HS.out]
    exact ⟨_, s, K, rfl, ⟨v, rfl, HF.out.2⟩, HF.out.1, HB.out⟩


set_option maxRecDepth 100000 in
set_option maxHeartbeats 1000000 in
theorem um_3 (f : Nat) (d : By.Bs) (le : Bool) (b off n c : Nat) (l : By.Bs) (w : World) (he : EK A w) (hl : l.length = n) (hc : n ≤ c) (h31 : n ≤ 2147483647) (hx : BytesAt w b off l) (hu : By.uHead l = some (le, 3, d)) :
    Calls Tryz.prog 22 #[.slice (some ⟨b, off, none⟩) n c] w (GetsU A (f + 1) (((By.uPoly le d)).map By.G.pg) w) := by
  have hcall := ubot_some b off n c l d le 3 w hu hl hc hx
  have hdl := By.uHead_some hu
  simp only at hdl
  have HE := Lib.hid he
  have HL := Lib.hid (⟨hl, hc, h31, hdl⟩ : _ ∧ _ ∧ _ ∧ _)
  clear he hl hc h31 hdl hx hu
  go_enter Tryz.func22, Tryz.ntmps22
  go_wp2_with fail
  refine hcall.mono ?_
  rintro e w1 ⟨s, off', n', c', rfl, hl', hc', hx', q, rfl⟩
  have HX := Lib.hid (⟨hl', hc', bytes_drewN hx' q⟩ : _ ∧ _ ∧ _)
  clear hcall hl' hc' hx'
  have hcall2 := upg_any le b off' n' c' d (w.drewN q) (errs_drewN HE.out.errs q) HX.out.1 HX.out.2.1 (by have := HX.out.1; have := HL.out; omega) HX.out.2.2
  clear HX HL
  go_wp2_with fail
  refine hcall2.mono ?_
  intro e w2 hm
  clear hcall2
  rcases hs : (By.uPoly le d) with _ | ls
  · obtain ⟨a, rfl, hb⟩ := hm.none_of hs
    have HB := Lib.hid (below_un hb)
    have HS : Hid (((By.uPoly le d)).map By.G.pg = none) := Lib.hid (by rw [hs]; rfl)
    clear hm hb hs
    go_wp2_with fail
    go_ret3
    rw [HS.out]
    exact ⟨a.1, _, .inl a.2, rfl, HB.out⟩
  · obtain ⟨v, rfl, hR, hb⟩ := hm.some_of hs
    obtain ⟨K, hK, hI⟩ := hR.is
    have HB := Lib.hid (below_un hb)
    have HS : Hid (((By.uPoly le d)).map By.G.pg = some (By.G.pg ls)) := Lib.hid (by rw [hs]; rfl)
    have HF := Lib.hid (⟨hK, hI⟩ : Has w.heap.size K w2 ∧ _)
    clear hm hb hs hR hK hI
    go_wp2_with fail
    go_ret3
    rw [HS.out]
    exact ⟨_, s, K, rfl, ⟨v, rfl, HF.out.2⟩, HF.out.1, HB.out⟩


set_option maxRecDepth 100000 in
set_option maxHeartbeats 1000000 in
theorem um_6 (f : Nat) (d : By.Bs) (le : Bool) (b off n c : Nat) (l : By.Bs) (w : World) (he : EK A w) (hl : l.length = n) (hc : n ≤ c) (h31 : n ≤ 2147483647) (hx : BytesAt w b off l) (hu : By.uHead l = some (le, 6, d)) (hf : n ≤ f) :
    Calls Tryz.prog 22 #[.slice (some ⟨b, off, none⟩) n c] w (GetsU A (f + 1) (((By.uMG f le d)).map By.G.mg) w) := by
  have hcall := ubot_some b off n c l d le 6 w hu hl hc hx
  have hdl := By.uHead_some hu
  simp only at hdl
  have HE := Lib.hid he
  have HL := Lib.hid (⟨hl, hc, h31, hdl, hf⟩ : _ ∧ _ ∧ _ ∧ _ ∧ _)
  clear he hl hc h31 hdl hx hu hf
  go_enter Tryz.func22, Tryz.ntmps22
  go_wp2_with fail
  refine hcall.mono ?_
  rintro e w1 ⟨s, off', n', c', rfl, hl', hc', hx', q, rfl⟩
  have HX := Lib.hid (⟨hl', hc', bytes_drewN hx' q⟩ : _ ∧ _ ∧ _)
  clear hcall hl' hc' hx'
  have hcall2 := umg_any f (spg_scanner f) le b off' n' c' d (w.drewN q) (errs_drewN HE.out.errs q) HX.out.1 HX.out.2.1 (by have := HX.out.1; have := HL.out; omega) (by have := HX.out.1; have := HL.out; omega) HX.out.2.2
  clear HX HL
  go_wp2_with fail
  refine hcall2.mono ?_
  intro e w2 hm
  clear hcall2
  rcases hs : (By.uMG f le d) with _ | ls
  · obtain ⟨a, rfl, hb⟩ := hm.none_of hs
    have HB := Lib.hid (below_un hb)
    have HS : Hid (((By.uMG f le d)).map By.G.mg = none) := Lib.hid (by rw [hs]; rfl)
    clear hm hb hs
    go_wp2_with fail
    go_ret3
    rw [HS.out]
    exact ⟨a.1, _, .inl a.2, rfl, HB.out⟩
  · obtain ⟨v, rfl, hR, hb⟩ := hm.some_of hs
    obtain ⟨K, hK, hI⟩ := hR.is
    have HB := Lib.hid (below_un hb)
    have HS : Hid (((By.uMG f le d)).map By.G.mg = some (By.G.mg ls)) := Lib.hid (by rw [hs]; rfl)
    have HF := Lib.hid (⟨hK, hI⟩ : Has w.heap.size K w2 ∧ _)
    clear hm hb hs hR hK hI
    go_wp2_with fail
    go_ret3
    rw [HS.out]
    exact ⟨_, s, K, rfl, ⟨v, rfl, HF.out.2⟩, HF.out.1, HB.out⟩


set_option maxRecDepth 100000 in
set_option maxHeartbeats 1000000 in
theorem um_7 (d : By.Bs) (le : Bool) (b off n c : Nat) (l : By.Bs) (w : World) (he : EK A w) (hl : l.length = n) (hc : n ≤ c) (h31 : n ≤ 2147483647) (hx : BytesAt w b off l) (hu : By.uHead l = some (le, 7, d)) :
    Calls Tryz.prog 22 #[.slice (some ⟨b, off, none⟩) n c] w (GetsU A l.length ((By.rG l.length l).map (·.1)) w) := by
  have hcall := ubot_some b off n c l d le 7 w hu hl hc hx
  have hbw := hx.lt (by intro h; subst h; simp [By.uHead] at hu)
  have HE := Lib.hid he
  have HX := Lib.hid (⟨hl, hc, h31, bytes_drewN hx, hbw⟩ : _ ∧ _ ∧ _ ∧ (∀ q, BytesAt (w.drewN q) b off l) ∧ _)
  clear he hl hc h31 hx hu hbw
  go_enter Tryz.func22, Tryz.ntmps22
  go_wp2_with fail
  refine hcall.mono ?_
  rintro e w1 ⟨s, off', n', c', rfl, hl', hc', hx', q, rfl⟩
  clear hcall hl' hc' hx'
  go_wp2_with fail
  refine (newReader (some ⟨b, off, none⟩) n c (w.drewN q)).mono ?_
  rintro e w2 ⟨rfl, hB2, hb2⟩
  have hR2 : Rd ⟨w.heap.size, n, c, some ⟨b, off, none⟩, l⟩ w2 l := reader_start (w := w.drewN q) HX.out.1 HX.out.2.1 HX.out.2.2.1 (.inr ⟨b, off, rfl, HX.out.2.2.2.2, HX.out.2.2.2.1 q⟩) hB2 hb2
  have hb2' := below_un hb2
  have HR2 := Lib.hid hR2
  have HB2 := Lib.hid hb2'
  clear hB2 hb2 hR2 hb2'
  go_wp2_with fail
  refine (newDec ⟨w.heap.size, n, c, some ⟨b, off, none⟩, l⟩ w2).mono ?_
  rintro e w3 ⟨rfl, hD3, hb3⟩
  have HR3 := Lib.hid (HR2.out.below hb3)
  have HB3 := Lib.hid (HB2.out.trans (hb3.mono HB2.out.size))
  have HE3 := Lib.hid (HE.out.below HB3.out)
  have hcel := decodes_all l.length ⟨w.heap.size, n, c, some ⟨b, off, none⟩, l⟩ w2.heap.size w3 l HR3.out hD3 HR2.out.lt HE3.out.errs HE.out.errs.lt (Nat.le_refl _)
  clear hD3 hb3
  go_wp2_with fail
  refine hcel.mono ?_
  intro e w4 hg
  clear hcel
  have hq1 := eql_nil
  rcases hs : By.rG l.length l with _ | ⟨g, r⟩
  · obtain ⟨a, hea, rfl, hk4⟩ := hg.none_of hs
    have hb4 : Below w.heap.size w w4 := HB3.out.trans (hk4.to_below (fun k hk => by rw [hk]; exact Nat.le_refl _) (by exact HB3.out.size))
    have hE4 := HE.out.below hb4
    obtain ⟨ca, hca⟩ := hE4.at hea
    obtain ⟨a0, h0⟩ := hE4.errs 0 (by omega) (by omega)
    obtain ⟨a1, h1⟩ := hE4.errs 1 (by omega) (by omega)
    obtain ⟨a2, h2⟩ := hE4.errs 2 (by omega) (by omega)
    obtain ⟨c0, k0⟩ := hE4.known a0.1 a0.2
    obtain ⟨c1, k1⟩ := hE4.known a1.1 a1.2
    have e0 := eql_err hca k0
    have e1 := eql_err hca k1
    have HS : Hid ((By.rG l.length l).map (·.1) = none) := Lib.hid (by rw [hs]; rfl)
    have HB4 := Lib.hid hb4
    have HEA := Lib.hid hea
    clear hg hea hk4 hb4 hE4 hca k0 k1 hs
    go_wp2_with fail
    all_goals first
      | (go_quiet (fail); go_wp2_with fail; go_ret3; rw [HS.out]; exact ⟨a2.1, _, .inl a2.2, rfl, below_drewN HB4.out _⟩)
      | (go_ret3; rw [HS.out]; exact ⟨a, _, HEA.out, rfl, HB4.out⟩)
  · obtain ⟨u, s2, K, rfl, hu, hK, hr, hk4⟩ := hg.some_of hs
    have hb4 : Below w.heap.size w w4 := HB3.out.trans (hk4.to_below (fun k hk => by rw [hk]; exact Nat.le_refl _) (by exact HB3.out.size))
    have hE4 := HE.out.below hb4
    obtain ⟨a0, h0⟩ := hE4.errs 0 (by omega) (by omega)
    obtain ⟨a1, h1⟩ := hE4.errs 1 (by omega) (by omega)
    have HS : Hid ((By.rG l.length l).map (·.1) = some g) := Lib.hid (by rw [hs]; rfl)
    have HB4 := Lib.hid hb4
    have HU := Lib.hid (⟨hu, hK.mono HB3.out.size⟩ : _ ∧ Has w.heap.size K w4)
    clear hg hk4 hb4 hE4 hs hu hK hr
    go_wp2_with fail
    go_ret3
    rw [HS.out]
    exact ⟨u, _, K, rfl, HU.out.1, HU.out.2, HB4.out⟩


theorem RowIs.imp {α : Type} {z : Prop} {size : Nat} {rel rel' : Knows → List Value → α → Prop} {E : TypeId} {H : Knows} {v : Value} {ls : List α} (hm : ∀ us a, rel H us a → rel' H us a) (h : RowIs z size rel E H v ls) : RowIs z size rel' E H v ls := by
  rcases h with h | ⟨g, cap, cur, uss, h1, h2, h3, h4, h5, h6, h7⟩
  · exact .inl h
  · exact .inr ⟨g, cap, cur, uss, h1, h2, h3, h4, h5, h6, fun i us a hu ha => hm us a (h7 i us a hu ha)⟩
theorem IsG.succ : ∀ {f : Nat} {H : Knows} {v : Value} {g : By.G}, IsG f H v g → IsG (f + 1) H v g
  | 0, _, _, _, h => h.elim
  | f + 1, H, v, g, h => by
    cases g with
    | pt p => exact h
    | ln l => exact h
    | pg l => exact h
    | mp l => exact h
    | ml l => exact h
    | mg l => exact h
    | co l => obtain ⟨x, h1, h2⟩ := h; exact ⟨x, h1, h2.imp fun us g ⟨u, e, hu⟩ => ⟨u, e, IsG.succ hu⟩⟩
theorem um_any (b off n c : Nat) (l : By.Bs) (w : World) (he : EK A w) (hl : l.length = n) (hc : n ≤ c) (h31 : n ≤ 2147483647) (hx : BytesAt w b off l) :
    Calls Tryz.prog 22 #[.slice (some ⟨b, off, none⟩) n c] w (GetsU A (l.length + 1) (By.unm l) w) := by
  rcases hu : By.uHead l with _ | ⟨le, kk, d⟩
  · have e : By.unm l = none := by simp only [By.unm, hu]
    rw [e]
    exact um_fail _ b off n c l w he hl hc h31 hx hu
  by_cases h1 : kk = 1
  · subst h1
    have e : By.unm l = (By.uPoint le d).map .pt := by simp only [By.unm, hu, if_true]
    rw [e]; exact um_1 _ d le b off n c l w he hl hc h31 hx hu
  by_cases h4 : kk = 4
  · subst h4
    have e : By.unm l = (By.uMP l.length le d).map .mp := by simp only [By.unm, hu]; rfl
    rw [e]; exact um_4 _ d le b off n c l w he hl hc h31 hx hu (by omega)
  by_cases h2 : kk = 2
  · subst h2
    have e : By.unm l = (By.uPoints le d).map .ln := by simp only [By.unm, hu]; rfl
    rw [e]; exact um_2 _ d le b off n c l w he hl hc h31 hx hu
  by_cases h5 : kk = 5
  · subst h5
    have e : By.unm l = (By.uML l.length le d).map .ml := by simp only [By.unm, hu]; rfl
    rw [e]; exact um_5 _ d le b off n c l w he hl hc h31 hx hu (by omega)
  by_cases h3 : kk = 3
  · subst h3
    have e : By.unm l = (By.uPoly le d).map .pg := by simp only [By.unm, hu]; rfl
    rw [e]; exact um_3 _ d le b off n c l w he hl hc h31 hx hu
  by_cases h6 : kk = 6
  · subst h6
    have e : By.unm l = (By.uMG l.length le d).map .mg := by simp only [By.unm, hu]; rfl
    rw [e]; exact um_6 _ d le b off n c l w he hl hc h31 hx hu (by omega)
  by_cases h7 : kk = 7
  · subst h7
    have e : By.unm l = (By.rG l.length l).map (·.1) := by simp only [By.unm, hu]; rfl
    rw [e]
    refine (um_7 d le b off n c l w he hl hc h31 hx hu).mono fun e w' h => ?_
    cases hs : (By.rG l.length l).map (·.1) with
    | none => rw [hs] at h; exact h
    | some g =>
      rw [hs] at h
      obtain ⟨u, s, K, h1, h2, h3⟩ := h
      exact ⟨u, s, K, h1, h2.succ, h3⟩
  have e : By.unm l = none := by simp only [By.unm, hu, if_neg h1, if_neg h4, if_neg h2, if_neg h5, if_neg h3, if_neg h6, if_neg h7]
  rw [e]
  exact um_else _ kk d le b off n c l w he hl hc h31 hx hu h1 h2 h3 h4 h5 h6 h7
/-- What wkb's Unmarshal gives. -/
def GetsW (f : Nat) (o : Option By.G) (w : World) (e : Ending) (w' : World) : Prop := match o with
  | some g => ∃ u K, e = .returned (.tuple #[u, .nilIface]) ∧ IsG f K u g ∧ Has w.heap.size K w' ∧ Below w.heap.size w w'
  | none => ∃ a : Addr, e = .returned (.tuple #[.nilIface, .iface 203 (.pointer (some a))]) ∧ Below w.heap.size w w'
theorem wu_of {f : Nat} {o : Option By.G} {v : Value} {w : World} (hk : EK A w) (h : Calls Tryz.prog 22 #[v] w (GetsU A f o w)) : Calls Tryz.prog 11 #[v] w (GetsW f o w) := by
  have HK := Lib.hid hk
  clear hk
  go_enter Tryz.func11, Tryz.ntmps11
  go_wp2_with fail
  refine h.mono ?_
  intro e w1 hg
  clear h
  rcases o with _ | g
  · obtain ⟨a, s, hea, rfl, hb⟩ := hg
    have hE1 := HK.out.below hb
    have hcall := map_err a w1 hE1 (hE1.at hea)
    have HB := Lib.hid hb
    clear hb hea hE1
    go_wp2_with fail
    refine hcall.mono ?_
    rintro e w2 ⟨⟨a2, rfl⟩, rfl⟩
    clear hcall
    go_wp2_with fail
    go_ret2
    exact ⟨a2, rfl, HB.out⟩
  · obtain ⟨u, s, K, rfl, hu, hK, hb⟩ := hg
    have HF := Lib.hid (⟨hu, hK, hb⟩ : _ ∧ _ ∧ _)
    clear hu hK hb
    go_wp2_with fail
    go_ret2
    exact ⟨u, K, rfl, HF.out⟩
theorem wu_any (b off n c : Nat) (l : By.Bs) (w : World) (he : EK A w) (hl : l.length = n) (hc : n ≤ c) (h31 : n ≤ 2147483647) (hx : BytesAt w b off l) :
    Calls Tryz.prog 11 #[.slice (some ⟨b, off, none⟩) n c] w (GetsW (l.length + 1) (By.unm l) w) := wu_of he (um_any b off n c l w he hl hc h31 hx)
theorem um_nil (w : World) (ao : Option Addr) (c : Nat) (he : EK A w) : Calls Tryz.prog 22 #[.slice ao 0 c] w (GetsU A 0 none w) := by
  have hcall := ubot_fail (A := A) (.slice ao 0 c) w (bot_short _ ao 0 c rfl w he.errs (by omega))
  clear he
  go_enter Tryz.func22, Tryz.ntmps22
  go_wp2_with fail
  refine hcall.mono ?_
  rintro e w1 ⟨err, ⟨a, rfl⟩, rfl, q, rfl⟩
  clear hcall
  go_wp2_with fail
  go_ret3
  exact ⟨a.1, _, .inl a.2, rfl, below_drewN (Below.refl _ _) _⟩
theorem wu_nil (w : World) (ao : Option Addr) (c : Nat) (he : EK A w) : Calls Tryz.prog 11 #[.slice ao 0 c] w (GetsW 0 none w) := wu_of he (um_nil w ao c he)

/-! ### A decoder -/

/-- A decoder of wkb, over a reader. -/
def WDec (w : World) (dw dk : Nat) (S : Src) : Prop := Blk w dw #[.pointer (some ⟨dk, 0, none⟩)] 107 ∧ Dec w dk S
theorem newWDec (S : Src) (w : World) : Calls Tryz.prog 19 #[.iface 60 (.pointer (some ⟨S.rb, 0, none⟩))] w fun e w' => ∃ dw dk, e = .returned (.pointer (some ⟨dw, 0, none⟩)) ∧ w.heap.size ≤ dw ∧ w.heap.size ≤ dk ∧ WDec w' dw dk S ∧ Below w.heap.size w w' := by
  go_enter Tryz.func19, Tryz.ntmps19
  go_wp2_with fail
  refine (newDec S w).mono ?_
  rintro e w1 ⟨rfl, hD, hb⟩
  have HF := Lib.hid (⟨hD, hb⟩ : _ ∧ _)
  clear hD hb
  go_wp2_with fail
  go_ret
  have hb2 : Below w1.heap.size w1 (w1.alloc (.cells #[.pointer (some ⟨w.heap.size, 0, none⟩)] 107)) := (Below.refl _ _).alloc (Nat.le_refl _) _
  exact ⟨w1.heap.size, w.heap.size, rfl, HF.out.2.size, Nat.le_refl _, ⟨Blk.new w1 _ _, HF.out.1.kept (Kept.of_below hb2 (fun _ => False)) id⟩, HF.out.2.trans (hb2.mono HF.out.2.size)⟩
/-- What a decoder of wkb gives. -/
def GetsWD (S : Src) (f : Nat) (o : Option (By.G × By.Bs)) (w : World) (e : Ending) (w' : World) : Prop := match o with
  | some (g, r) => ∃ u K, e = .returned (.tuple #[u, .nilIface]) ∧ IsG f K u g ∧ Has w.heap.size K w' ∧ Rd S w' r ∧ Kept (fun b => b = S.rb) w w'
  | none => ∃ a : Addr, e = .returned (.tuple #[.nilIface, .iface 203 (.pointer (some a))]) ∧ Kept (fun b => b = S.rb) w w'
theorem EK.kept {S : Src} {w w' : World} (h : EK A w) (hk : Kept (fun b => b = S.rb) w w') (h13 : 13 ≤ S.rb) (hR : ∀ a, A a → a.block ≠ S.rb) : EK A w' :=
  ⟨h.errs.kept hk (fun b hb => by omega), fun a ha => by
    obtain ⟨c, hc⟩ := h.known a ha
    exact ⟨c, (hk.block a.block (Array.getElem?_eq_some_iff.1 hc).1 (hR a ha)).trans hc⟩⟩
theorem wdec_any (f : Nat) (S : Src) (dw dk : Nat) (w : World) (l : By.Bs) (h : Rd S w l) (hd : WDec w dw dk S) (hdk : S.rb < dk) (he : EK A w) (h13 : 13 ≤ S.rb) (hR : ∀ a, A a → a.block ≠ S.rb) (hf : l.length ≤ f) :
    Calls Tryz.prog 21 #[.pointer (some ⟨dw, 0, none⟩)] w (GetsWD S f (By.rG f l) w) := by
  have hcall := decodes_all f S dk w l h hd.2 hdk he.errs h13 hf
  obtain ⟨d0, _⟩ := hd.1.cell (i := 0) (v := .pointer (some ⟨dk, 0, none⟩)) rfl
  have HE := Lib.hid he
  clear h hd he
  go_enter Tryz.func21, Tryz.ntmps21
  go_wp2_with fail
  refine hcall.mono ?_
  intro e w1 hg
  clear hcall d0
  rcases hs : By.rG f l with _ | ⟨g, r⟩
  · obtain ⟨a, hea, rfl, hk⟩ := hg.none_of hs
    have hE1 := HE.out.kept hk h13 hR
    have hcall := map_err a w1 hE1 (hE1.at hea)
    have HB := Lib.hid hk
    have HS := Lib.hid hs
    clear hg hk hea hE1 hs
    go_wp2_with fail
    refine hcall.mono ?_
    rintro e w2 ⟨⟨a2, rfl⟩, rfl⟩
    clear hcall
    go_wp2_with fail
    go_ret2
    rw [HS.out]
    exact ⟨a2, rfl, HB.out⟩
  · obtain ⟨u, s, K, rfl, hu, hK, hr, hk⟩ := hg.some_of hs
    have HF := Lib.hid (⟨hu, hK, hr, hk⟩ : _ ∧ _ ∧ _ ∧ _)
    have HS := Lib.hid hs
    clear hg hu hK hr hk hs
    go_wp2_with fail
    go_ret2
    rw [HS.out]
    exact ⟨u, K, rfl, HF.out⟩

end Go.Proofs.YtjbjjphgnilhmaaGreatDoor
