/- The walks of readUint32, readByteOrderType, readPoint. -/
import Derived.Test.YtjbjjphgnilhmaaGreatDoorBr
set_option linter.unusedVariables false
namespace Go.Proofs.YtjbjjphgnilhmaaGreatDoor
open Go.RowKit
variable {A : Addr → Prop}

/-- The blocks that reading turns. -/
abbrev Two (S : Src) (bb : Nat) : Nat → Prop := fun b => b = S.rb ∨ b = bb
theorem bytes_map (l : By.Bs) (k : Nat) (hk : k ≤ l.length) : ((l.take k).map byteV).length = k := by simp; omega
/-- What lies in a buffer behind a full read. -/
theorem buf_bytes {w : World} {bb k : Nat} {cur : List Value} {l : By.Bs} (hb : Buf w bb (splice cur 0 ((l.take k).map byteV))) : BytesAt w bb 0 (l.take k) := by
  intro i x hi
  have h := hb.2
  have hs : (splice cur 0 ((l.take k).map byteV))[i]? = some (byteV x) := by
    unfold splice
    have hlt := (List.getElem?_eq_some_iff.1 hi).1
    rw [List.take_zero, List.nil_append, List.getElem?_append_left (by simpa using hlt), List.getElem?_map, hi]; rfl
  rw [Nat.zero_add]
  exact ((show Blk w bb _ 5 from h).cell (i := i) (v := byteV x) (by simpa using hs)).1
theorem u32_take (le : Bool) (l : By.Bs) : By.u32 le (l.take 4) = By.u32 le l := by unfold By.u32; rw [List.take_take]; rfl
theorem u64_take (le : Bool) (l : By.Bs) : By.u64 le (l.take 8) = By.u64 le l := by unfold By.u64; rw [List.take_take]; rfl

theorem r32_some (S : Src) (bb cp : Nat) (le : Bool) (cur : List Value) (w : World) (l : By.Bs) (hcp : 4 ≤ cp) (hl : 4 ≤ l.length) (h : Rd S w l) (hb : Buf w bb cur) (hbb : S.rb < bb) :
    Calls Tryz.prog 83 #[.iface 60 (.pointer (some ⟨S.rb, 0, none⟩)), .int .i64 (ordI le), .slice (some ⟨bb, 0, none⟩) 4 cp] w fun e w' => e = .returned (.tuple #[.int .u32 (By.u32 le l), .nilIface]) ∧ Rd S w' (l.drop 4) ∧ (∃ cur', Buf w' bb cur') ∧ Kept (Two S bb) w w' := by
  have hcall := rf_full S bb 4 cp cur w l (by omega) hcp hl h hb hbb (by omega)
  have HL := Lib.hid hl
  clear h hb hl
  go_enter Tryz.func83, Tryz.ntmps83
  go_wp2_with fail
  refine hcall.mono ?_
  rintro e w1 ⟨rfl, hR, hB, hK⟩
  have hx := buf_bytes hB
  have hcall2 := u32_call le bb 0 4 cp (l.take 4) w1 (by have := HL.out; simp; omega) (by omega) hx
  rw [u32_take] at hcall2
  have HF := Lib.hid (⟨hR, ⟨_, hB⟩, hK⟩ : Rd S w1 (l.drop 4) ∧ (∃ cur', Buf w1 bb cur') ∧ Kept (Two S bb) w w1)
  clear hR hB hK hcall hx
  go_wp2_with fail
  refine hcall2.mono ?_
  rintro e w2 ⟨rfl, q, rfl⟩
  clear hcall2
  go_wp2_with fail
  go_ret2
  refine ⟨rfl, HF.out.1.kept ((Kept.refl (fun _ => False) _).drewN q) (fun _ h => h.elim), ?_, HF.out.2.2.drewN q⟩
  obtain ⟨cur', hc⟩ := HF.out.2.1
  exact ⟨cur', hc.kept ((Kept.refl (fun _ => False) _).drewN q) id⟩
theorem r32_none (S : Src) (bb cp : Nat) (le : Bool) (cur : List Value) (w : World) (l : By.Bs) (hcp : 4 ≤ cp) (hl : l.length < 4) (h : Rd S w l) (hb : Buf w bb cur) (hbb : S.rb < bb) (he : Errs A w) (h13 : 13 ≤ S.rb) :
    Calls Tryz.prog 83 #[.iface 60 (.pointer (some ⟨S.rb, 0, none⟩)), .int .i64 (ordI le), .slice (some ⟨bb, 0, none⟩) 4 cp] w fun e w' => ∃ a : {a // A a}, e = .returned (.tuple #[.int .u32 0, .iface 203 (.pointer (some a.1))]) ∧ Kept (Two S bb) w w' := by
  have hcall := rf_short S bb 4 cp cur w l hcp hl h hb hbb (by omega) he h13
  clear h hb hl he
  go_enter Tryz.func83, Tryz.ntmps83
  go_wp2_with fail
  refine hcall.mono ?_
  rintro e w1 ⟨m, a, rfl, hK⟩
  have HK := Lib.hid hK
  clear hK hcall
  go_wp2_with fail
  go_ret2
  exact ⟨a, rfl, HK.out⟩

/-- A head, read. -/
def HeadRead (S : Src) (bb : Nat) (le : Bool) (k : Nat) (r : By.Bs) (w : World) (e : Ending) (w' : World) : Prop :=
  ∃ s : Int, e = .returned (.tuple #[.int .i64 (ordI le), .int .u32 k, .int .i64 s, .nilIface]) ∧ Rd S w' r ∧ (∃ cur', Buf w' bb cur') ∧ Kept (Two S bb) w w'
def HeadFail (A : Addr → Prop) (S : Src) (bb : Nat) (w : World) (e : Ending) (w' : World) : Prop :=
  ∃ a : {a // A a}, e = .returned (.tuple #[.int .i64 0, .int .u32 0, .int .i64 0, .iface 203 (.pointer (some a.1))]) ∧ Kept (Two S bb) w w'
set_option maxRecDepth 100000 in
theorem rh_none (S : Src) (bb : Nat) (w : World) (h : Rd S w []) (he : Errs A w) :
    Calls Tryz.prog 57 #[.iface 60 (.pointer (some ⟨S.rb, 0, none⟩)), .slice (some ⟨bb, 0, none⟩) 8 8] w (HeadFail A S bb w) := by
  have hcall := fun q dv => read_none S dv (w.drewN q) (h.kept ((Kept.refl (fun _ => False) w).drewN q) (fun _ h => h.elim)) (errs_drewN he q)
  have HC := Lib.hid hcall
  have hn1 := nil_ahead
  have hn2 := method_read
  clear h he hcall
  go_enter Tryz.func57, Tryz.ntmps57
  go_wp2_with fail
  go_region_held3 (fun w' => True) (exact trivial) ((go_at_call 109; refine (HC.out _ _).mono ?_; rintro e w1 ⟨a, ha, rfl, q2, rfl⟩))
  clear HC
  go_wp2_with fail
  refine bodyPost_ret (v := .tuple #[.int .i64 0, .int .u32 0, .int .i64 0, .iface 203 (.pointer (some a.1))]) (by simp [results, Tryz.results57, go_sem]) rfl ?_
  exact ⟨a, rfl, (Kept.refl _ _).drewN _⟩
set_option maxRecDepth 100000 in
set_option maxHeartbeats 1000000 in
theorem rh_bad (S : Src) (bb : Nat) (cur : List Value) (w : World) (x : UInt8) (l : By.Bs) (h : Rd S w (x :: l)) (hb : Buf w bb cur) (hbb : S.rb < bb) (he : Errs A w) (h13 : 13 ≤ S.rb) (h0 : ¬ x = 0) (h1 : ¬ x = 1) :
    Calls Tryz.prog 57 #[.iface 60 (.pointer (some ⟨S.rb, 0, none⟩)), .slice (some ⟨bb, 0, none⟩) 8 8] w (HeadFail A S bb w) := by
  have hcall := fun q => read_some S bb 0 1 8 cur (w.drewN q) (x :: l) (by simp) (h.kept ((Kept.refl (fun _ => False) w).drewN q) (fun _ h => h.elim)) (hb.kept ((Kept.refl (fun _ => False) w).drewN q) (fun h => h)) hbb (by omega)
  have HC := Lib.hid hcall
  have HE := Lib.hid he
  have hn1 := nil_ahead
  have hn2 := method_read
  have k0 : ((x.toNat : Int) == 0) = false := by
    have : x.toNat ≠ 0 := fun h => h0 (UInt8.toNat_inj.1 h)
    simp; omega
  have k1 : ((x.toNat : Int) == 1) = false := by
    have : x.toNat ≠ 1 := fun h => h1 (UInt8.toNat_inj.1 h)
    simp; omega
  clear h0 h1
  clear h hb he hcall
  go_enter Tryz.func57, Tryz.ntmps57
  go_wp2_with fail
  go_region_held3 (fun w' => True) (exact trivial) ((go_at_call 109; refine (HC.out _).mono ?_; rintro e w1 ⟨rfl, hR, hB, hK⟩))
  have hx0 : w1.cell? ⟨bb, 0, none⟩ = some (.int .u8 x.toNat) := by
    have := buf_bytes (l := x :: l) (k := 1) hB 0 x rfl
    simpa using this
  have hE1 := HE.out.kept (kept_un hK) (fun b hb => by rcases hb with rfl | rfl <;> omega)
  have HR := Lib.hid (show Rd S w1 l from hR)
  have HB := Lib.hid hB
  have HK := Lib.hid (show Kept (Two S bb) w w1 from kept_un hK)
  have HE1 := Lib.hid hE1
  obtain ⟨a2, ha2⟩ := hE1 2 (by omega) (by omega)
  clear hR hB hK HC hE1
  go_wp2_with fail
  go_quiet (fail)
  go_wp2_with fail
  refine bodyPost_ret (v := .tuple #[.int .i64 0, .int .u32 0, .int .i64 0, .iface 203 (.pointer (some a2.1))]) (by simp [results, Tryz.results57, go_sem]) rfl ?_
  exact ⟨a2, rfl, HK.out.drewN _⟩
set_option maxRecDepth 100000 in
set_option maxHeartbeats 1000000 in
theorem rh_be_none (S : Src) (bb : Nat) (cur : List Value) (w : World) (x : UInt8) (l : By.Bs) (h : Rd S w (x :: l)) (hb : Buf w bb cur) (hbb : S.rb < bb) (he : Errs A w) (h13 : 13 ≤ S.rb) (hx : x = 0) (hl : By.rU32 false l = none) :
    Calls Tryz.prog 57 #[.iface 60 (.pointer (some ⟨S.rb, 0, none⟩)), .slice (some ⟨bb, 0, none⟩) 8 8] w (HeadFail A S bb w) := by
  have hcall := fun q => read_some S bb 0 1 8 cur (w.drewN q) (x :: l) (by simp) (h.kept ((Kept.refl (fun _ => False) w).drewN q) (fun _ h => h.elim)) (hb.kept ((Kept.refl (fun _ => False) w).drewN q) (fun h => h)) hbb (by omega)
  have HC := Lib.hid hcall
  have HE := Lib.hid he
  have hn1 := nil_ahead
  have hn2 := method_read
  have k0 : ((x.toNat : Int) == 0) = true := by rw [hx]; rfl
  have hl4 : l.length < 4 := by
    unfold By.rU32 at hl
    split at hl
    · omega
    · cases hl
  clear hx hl
  clear h hb he hcall
  go_enter Tryz.func57, Tryz.ntmps57
  go_wp2_with fail
  go_region_held3 (fun w' => True) (exact trivial) ((go_at_call 109; refine (HC.out _).mono ?_; rintro e w1 ⟨rfl, hR, hB, hK⟩))
  have hx0 : w1.cell? ⟨bb, 0, none⟩ = some (.int .u8 x.toNat) := by
    have := buf_bytes (l := x :: l) (k := 1) hB 0 x rfl
    simpa using this
  have hE1 := HE.out.kept (kept_un hK) (fun b hb => by rcases hb with rfl | rfl <;> omega)
  have HR := Lib.hid (show Rd S w1 l from hR)
  have HB := Lib.hid hB
  have HK := Lib.hid (show Kept (Two S bb) w w1 from kept_un hK)
  have HE1 := Lib.hid hE1
  have hcall2 := r32_none S bb 8 false _ w1 l (by omega) hl4 hR hB hbb hE1 h13
  clear hR hB hK HC hE1 HB
  go_wp2_with fail
  refine hcall2.mono ?_
  rintro e w2 ⟨a, rfl, hK2⟩
  have HK2 := Lib.hid (HK.out.same hK2)
  clear hK2 hcall2
  go_wp2_with fail
  refine bodyPost_ret (v := .tuple #[.int .i64 0, .int .u32 0, .int .i64 0, .iface 203 (.pointer (some a.1))]) (by simp [results, Tryz.results57, go_sem]) rfl ?_
  exact ⟨a, rfl, HK2.out⟩
set_option maxRecDepth 100000 in
set_option maxHeartbeats 1000000 in
theorem rh_be_one (S : Src) (bb : Nat) (cur : List Value) (w : World) (x : UInt8) (l : By.Bs) (h : Rd S w (x :: l)) (hb : Buf w bb cur) (hbb : S.rb < bb) (he : Errs A w) (h13 : 13 ≤ S.rb) (hx : x = 0) (hl4 : 4 ≤ l.length) (ht : By.u32 false l &&& 536870912 = 0) :
    Calls Tryz.prog 57 #[.iface 60 (.pointer (some ⟨S.rb, 0, none⟩)), .slice (some ⟨bb, 0, none⟩) 8 8] w (HeadRead S bb false (By.u32 false l) (l.drop 4) w) := by
  have hcall := fun q => read_some S bb 0 1 8 cur (w.drewN q) (x :: l) (by simp) (h.kept ((Kept.refl (fun _ => False) w).drewN q) (fun _ h => h.elim)) (hb.kept ((Kept.refl (fun _ => False) w).drewN q) (fun h => h)) hbb (by omega)
  have HC := Lib.hid hcall
  have HE := Lib.hid he
  have hn1 := nil_ahead
  have hn2 := method_read
  have k0 : ((x.toNat : Int) == 0) = true := by rw [hx]; rfl
  have hb1 : (bits .and .u32 ((By.u32 false l : Nat) : Int) 536870912 == 0) = true := by
    have e := and_u32 (By.u32 false l) 536870912 (By.u32_lt false l) (by omega)
    have e2 : ((536870912 : Nat) : Int) = 536870912 := rfl
    rw [e2] at e
    rw [e, ht]; rfl
  clear hx ht
  clear h hb he hcall
  go_enter Tryz.func57, Tryz.ntmps57
  go_wp2_with fail
  go_region_held3 (fun w' => True) (exact trivial) ((go_at_call 109; refine (HC.out _).mono ?_; rintro e w1 ⟨rfl, hR, hB, hK⟩))
  have hx0 : w1.cell? ⟨bb, 0, none⟩ = some (.int .u8 x.toNat) := by
    have := buf_bytes (l := x :: l) (k := 1) hB 0 x rfl
    simpa using this
  have hE1 := HE.out.kept (kept_un hK) (fun b hb => by rcases hb with rfl | rfl <;> omega)
  have HR := Lib.hid (show Rd S w1 l from hR)
  have HB := Lib.hid hB
  have HK := Lib.hid (show Kept (Two S bb) w w1 from kept_un hK)
  have HE1 := Lib.hid hE1
  have hcall2 := r32_some S bb 8 false _ w1 l (by omega) hl4 hR hB hbb
  clear hR hB hK HC hE1 HB
  go_wp2_with fail
  refine hcall2.mono ?_
  rintro e w2 ⟨rfl, hR2, hB2, hK2⟩
  have HR2 := Lib.hid (⟨hR2, hB2⟩ : _ ∧ _)
  have HK2 := Lib.hid (HK.out.same hK2)
  clear hK2 hcall2 hR2 hB2
  go_wp2_with fail
  refine bodyPost_ret (v := .tuple #[.int .i64 0, .int .u32 (By.u32 false l), .int .i64 0, .nilIface]) (by simp [results, Tryz.results57, go_sem]) rfl ?_
  exact ⟨0, rfl, HR2.out.1, HR2.out.2, HK2.out⟩
set_option maxRecDepth 100000 in
set_option maxHeartbeats 1000000 in
theorem rh_be_two_none (S : Src) (bb : Nat) (cur : List Value) (w : World) (x : UInt8) (l : By.Bs) (h : Rd S w (x :: l)) (hb : Buf w bb cur) (hbb : S.rb < bb) (he : Errs A w) (h13 : 13 ≤ S.rb) (hx : x = 0) (hl4 : 4 ≤ l.length) (ht : ¬ By.u32 false l &&& 536870912 = 0) (hl : (l.drop 4).length < 4) :
    Calls Tryz.prog 57 #[.iface 60 (.pointer (some ⟨S.rb, 0, none⟩)), .slice (some ⟨bb, 0, none⟩) 8 8] w (HeadFail A S bb w) := by
  have hcall := fun q => read_some S bb 0 1 8 cur (w.drewN q) (x :: l) (by simp) (h.kept ((Kept.refl (fun _ => False) w).drewN q) (fun _ h => h.elim)) (hb.kept ((Kept.refl (fun _ => False) w).drewN q) (fun h => h)) hbb (by omega)
  have HC := Lib.hid hcall
  have HE := Lib.hid he
  have hn1 := nil_ahead
  have hn2 := method_read
  have k0 : ((x.toNat : Int) == 0) = true := by rw [hx]; rfl
  have hb1 : (bits .and .u32 ((By.u32 false l : Nat) : Int) 536870912 == 0) = false := by
    have e := and_u32 (By.u32 false l) 536870912 (By.u32_lt false l) (by omega)
    have e2 : ((536870912 : Nat) : Int) = 536870912 := rfl
    rw [e2] at e
    rw [e]
    simp; omega
  clear hx ht
  clear h hb he hcall
  go_enter Tryz.func57, Tryz.ntmps57
  go_wp2_with fail
  go_region_held3 (fun w' => True) (exact trivial) ((go_at_call 109; refine (HC.out _).mono ?_; rintro e w1 ⟨rfl, hR, hB, hK⟩))
  have hx0 : w1.cell? ⟨bb, 0, none⟩ = some (.int .u8 x.toNat) := by
    have := buf_bytes (l := x :: l) (k := 1) hB 0 x rfl
    simpa using this
  have hE1 := HE.out.kept (kept_un hK) (fun b hb => by rcases hb with rfl | rfl <;> omega)
  have HR := Lib.hid (show Rd S w1 l from hR)
  have HB := Lib.hid hB
  have HK := Lib.hid (show Kept (Two S bb) w w1 from kept_un hK)
  have HE1 := Lib.hid hE1
  have hcall2 := r32_some S bb 8 false _ w1 l (by omega) hl4 hR hB hbb
  clear hR hB hK HC hE1 HB
  go_wp2_with fail
  refine hcall2.mono ?_
  rintro e w2 ⟨rfl, hR2, hB2, hK2⟩
  obtain ⟨cur2, hB2⟩ := hB2
  have HR2 := Lib.hid hR2
  have HB2 := Lib.hid hB2
  have HK2 := Lib.hid (HK.out.same hK2)
  have HE2 := Lib.hid (HE1.out.kept hK2 (fun b hb => by rcases hb with rfl | rfl <;> omega))
  clear hK2 hcall2 hR2 hB2
  go_wp2_with fail
  refine (r32_none S bb 8 false _ w2 (l.drop 4) (by omega) hl HR2.out HB2.out hbb HE2.out h13).mono ?_
  rintro e w3 ⟨a, rfl, hK3⟩
  have HK3 := Lib.hid (HK2.out.same hK3)
  clear hK3
  go_wp2_with fail
  refine bodyPost_ret (v := .tuple #[.int .i64 0, .int .u32 0, .int .i64 0, .iface 203 (.pointer (some a.1))]) (by simp [results, Tryz.results57, go_sem]) rfl ?_
  exact ⟨a, rfl, HK3.out⟩
set_option maxRecDepth 100000 in
set_option maxHeartbeats 1000000 in
theorem rh_be_two (S : Src) (bb : Nat) (cur : List Value) (w : World) (x : UInt8) (l : By.Bs) (h : Rd S w (x :: l)) (hb : Buf w bb cur) (hbb : S.rb < bb) (he : Errs A w) (h13 : 13 ≤ S.rb) (hx : x = 0) (hl4 : 4 ≤ l.length) (ht : ¬ By.u32 false l &&& 536870912 = 0) (hl : 4 ≤ (l.drop 4).length) :
    Calls Tryz.prog 57 #[.iface 60 (.pointer (some ⟨S.rb, 0, none⟩)), .slice (some ⟨bb, 0, none⟩) 8 8] w (HeadRead S bb false (By.u32 false l &&& 255) ((l.drop 4).drop 4) w) := by
  have hcall := fun q => read_some S bb 0 1 8 cur (w.drewN q) (x :: l) (by simp) (h.kept ((Kept.refl (fun _ => False) w).drewN q) (fun _ h => h.elim)) (hb.kept ((Kept.refl (fun _ => False) w).drewN q) (fun h => h)) hbb (by omega)
  have HC := Lib.hid hcall
  have HE := Lib.hid he
  have hn1 := nil_ahead
  have hn2 := method_read
  have k0 : ((x.toNat : Int) == 0) = true := by rw [hx]; rfl
  have hb1 : (bits .and .u32 ((By.u32 false l : Nat) : Int) 536870912 == 0) = false := by
    have e := and_u32 (By.u32 false l) 536870912 (By.u32_lt false l) (by omega)
    have e2 : ((536870912 : Nat) : Int) = 536870912 := rfl
    rw [e2] at e
    rw [e]
    simp; omega
  clear hx ht
  have hb2 : bits .and .u32 ((By.u32 false l : Nat) : Int) 255 = ((By.u32 false l &&& 255 : Nat) : Int) := and_u32 (By.u32 false l) 255 (By.u32_lt false l) (by omega)
  have hb3 := By.u32_lt false (l.drop 4)
  clear h hb he hcall
  go_enter Tryz.func57, Tryz.ntmps57
  go_wp2_with fail
  go_region_held3 (fun w' => True) (exact trivial) ((go_at_call 109; refine (HC.out _).mono ?_; rintro e w1 ⟨rfl, hR, hB, hK⟩))
  have hx0 : w1.cell? ⟨bb, 0, none⟩ = some (.int .u8 x.toNat) := by
    have := buf_bytes (l := x :: l) (k := 1) hB 0 x rfl
    simpa using this
  have hE1 := HE.out.kept (kept_un hK) (fun b hb => by rcases hb with rfl | rfl <;> omega)
  have HR := Lib.hid (show Rd S w1 l from hR)
  have HB := Lib.hid hB
  have HK := Lib.hid (show Kept (Two S bb) w w1 from kept_un hK)
  have HE1 := Lib.hid hE1
  have hcall2 := r32_some S bb 8 false _ w1 l (by omega) hl4 hR hB hbb
  clear hR hB hK HC hE1 HB
  go_wp2_with fail
  refine hcall2.mono ?_
  rintro e w2 ⟨rfl, hR2, hB2, hK2⟩
  obtain ⟨cur2, hB2⟩ := hB2
  have HR2 := Lib.hid hR2
  have HB2 := Lib.hid hB2
  have HK2 := Lib.hid (HK.out.same hK2)
  have HE2 := Lib.hid (HE1.out.kept hK2 (fun b hb => by rcases hb with rfl | rfl <;> omega))
  clear hK2 hcall2 hR2 hB2
  go_wp2_with fail
  refine (r32_some S bb 8 false _ w2 (l.drop 4) (by omega) hl HR2.out HB2.out hbb).mono ?_
  rintro e w3 ⟨rfl, hR3, hB3, hK3⟩
  have HR3 := Lib.hid (⟨hR3, hB3⟩ : _ ∧ _)
  have HK3 := Lib.hid (HK2.out.same hK3)
  clear hK3 hR3 hB3
  go_wp2_with fail
  refine bodyPost_ret (v := .tuple #[.int .i64 0, .int .u32 ((By.u32 false l &&& 255 : Nat) : Int), .int .i64 (By.u32 false (l.drop 4)), .nilIface]) (by simp [results, Tryz.results57, go_sem]) rfl ?_
  exact ⟨_, rfl, HR3.out.1, HR3.out.2, HK3.out⟩
set_option maxRecDepth 100000 in
set_option maxHeartbeats 1000000 in
theorem rh_le_none (S : Src) (bb : Nat) (cur : List Value) (w : World) (x : UInt8) (l : By.Bs) (h : Rd S w (x :: l)) (hb : Buf w bb cur) (hbb : S.rb < bb) (he : Errs A w) (h13 : 13 ≤ S.rb) (hx : x = 1) (hl : By.rU32 true l = none) :
    Calls Tryz.prog 57 #[.iface 60 (.pointer (some ⟨S.rb, 0, none⟩)), .slice (some ⟨bb, 0, none⟩) 8 8] w (HeadFail A S bb w) := by
  have hcall := fun q => read_some S bb 0 1 8 cur (w.drewN q) (x :: l) (by simp) (h.kept ((Kept.refl (fun _ => False) w).drewN q) (fun _ h => h.elim)) (hb.kept ((Kept.refl (fun _ => False) w).drewN q) (fun h => h)) hbb (by omega)
  have HC := Lib.hid hcall
  have HE := Lib.hid he
  have hn1 := nil_ahead
  have hn2 := method_read
  have k0 : ((x.toNat : Int) == 0) = false := by rw [hx]; rfl
  have k1 : ((x.toNat : Int) == 1) = true := by rw [hx]; rfl
  have hl4 : l.length < 4 := by
    unfold By.rU32 at hl
    split at hl
    · omega
    · cases hl
  clear hx hl
  clear h hb he hcall
  go_enter Tryz.func57, Tryz.ntmps57
  go_wp2_with fail
  go_region_held3 (fun w' => True) (exact trivial) ((go_at_call 109; refine (HC.out _).mono ?_; rintro e w1 ⟨rfl, hR, hB, hK⟩))
  have hx0 : w1.cell? ⟨bb, 0, none⟩ = some (.int .u8 x.toNat) := by
    have := buf_bytes (l := x :: l) (k := 1) hB 0 x rfl
    simpa using this
  have hE1 := HE.out.kept (kept_un hK) (fun b hb => by rcases hb with rfl | rfl <;> omega)
  have HR := Lib.hid (show Rd S w1 l from hR)
  have HB := Lib.hid hB
  have HK := Lib.hid (show Kept (Two S bb) w w1 from kept_un hK)
  have HE1 := Lib.hid hE1
  have hcall2 := r32_none S bb 8 true _ w1 l (by omega) hl4 hR hB hbb hE1 h13
  clear hR hB hK HC hE1 HB
  go_wp2_with fail
  refine hcall2.mono ?_
  rintro e w2 ⟨a, rfl, hK2⟩
  have HK2 := Lib.hid (HK.out.same hK2)
  clear hK2 hcall2
  go_wp2_with fail
  refine bodyPost_ret (v := .tuple #[.int .i64 0, .int .u32 0, .int .i64 0, .iface 203 (.pointer (some a.1))]) (by simp [results, Tryz.results57, go_sem]) rfl ?_
  exact ⟨a, rfl, HK2.out⟩
set_option maxRecDepth 100000 in
set_option maxHeartbeats 1000000 in
theorem rh_le_one (S : Src) (bb : Nat) (cur : List Value) (w : World) (x : UInt8) (l : By.Bs) (h : Rd S w (x :: l)) (hb : Buf w bb cur) (hbb : S.rb < bb) (he : Errs A w) (h13 : 13 ≤ S.rb) (hx : x = 1) (hl4 : 4 ≤ l.length) (ht : By.u32 true l &&& 536870912 = 0) :
    Calls Tryz.prog 57 #[.iface 60 (.pointer (some ⟨S.rb, 0, none⟩)), .slice (some ⟨bb, 0, none⟩) 8 8] w (HeadRead S bb true (By.u32 true l) (l.drop 4) w) := by
  have hcall := fun q => read_some S bb 0 1 8 cur (w.drewN q) (x :: l) (by simp) (h.kept ((Kept.refl (fun _ => False) w).drewN q) (fun _ h => h.elim)) (hb.kept ((Kept.refl (fun _ => False) w).drewN q) (fun h => h)) hbb (by omega)
  have HC := Lib.hid hcall
  have HE := Lib.hid he
  have hn1 := nil_ahead
  have hn2 := method_read
  have k0 : ((x.toNat : Int) == 0) = false := by rw [hx]; rfl
  have k1 : ((x.toNat : Int) == 1) = true := by rw [hx]; rfl
  have hb1 : (bits .and .u32 ((By.u32 true l : Nat) : Int) 536870912 == 0) = true := by
    have e := and_u32 (By.u32 true l) 536870912 (By.u32_lt true l) (by omega)
    have e2 : ((536870912 : Nat) : Int) = 536870912 := rfl
    rw [e2] at e
    rw [e, ht]; rfl
  clear hx ht
  clear h hb he hcall
  go_enter Tryz.func57, Tryz.ntmps57
  go_wp2_with fail
  go_region_held3 (fun w' => True) (exact trivial) ((go_at_call 109; refine (HC.out _).mono ?_; rintro e w1 ⟨rfl, hR, hB, hK⟩))
  have hx0 : w1.cell? ⟨bb, 0, none⟩ = some (.int .u8 x.toNat) := by
    have := buf_bytes (l := x :: l) (k := 1) hB 0 x rfl
    simpa using this
  have hE1 := HE.out.kept (kept_un hK) (fun b hb => by rcases hb with rfl | rfl <;> omega)
  have HR := Lib.hid (show Rd S w1 l from hR)
  have HB := Lib.hid hB
  have HK := Lib.hid (show Kept (Two S bb) w w1 from kept_un hK)
  have HE1 := Lib.hid hE1
  have hcall2 := r32_some S bb 8 true _ w1 l (by omega) hl4 hR hB hbb
  clear hR hB hK HC hE1 HB
  go_wp2_with fail
  refine hcall2.mono ?_
  rintro e w2 ⟨rfl, hR2, hB2, hK2⟩
  have HR2 := Lib.hid (⟨hR2, hB2⟩ : _ ∧ _)
  have HK2 := Lib.hid (HK.out.same hK2)
  clear hK2 hcall2 hR2 hB2
  go_wp2_with fail
  refine bodyPost_ret (v := .tuple #[.int .i64 1, .int .u32 (By.u32 true l), .int .i64 0, .nilIface]) (by simp [results, Tryz.results57, go_sem]) rfl ?_
  exact ⟨0, rfl, HR2.out.1, HR2.out.2, HK2.out⟩
set_option maxRecDepth 100000 in
set_option maxHeartbeats 1000000 in
theorem rh_le_two_none (S : Src) (bb : Nat) (cur : List Value) (w : World) (x : UInt8) (l : By.Bs) (h : Rd S w (x :: l)) (hb : Buf w bb cur) (hbb : S.rb < bb) (he : Errs A w) (h13 : 13 ≤ S.rb) (hx : x = 1) (hl4 : 4 ≤ l.length) (ht : ¬ By.u32 true l &&& 536870912 = 0) (hl : (l.drop 4).length < 4) :
    Calls Tryz.prog 57 #[.iface 60 (.pointer (some ⟨S.rb, 0, none⟩)), .slice (some ⟨bb, 0, none⟩) 8 8] w (HeadFail A S bb w) := by
  have hcall := fun q => read_some S bb 0 1 8 cur (w.drewN q) (x :: l) (by simp) (h.kept ((Kept.refl (fun _ => False) w).drewN q) (fun _ h => h.elim)) (hb.kept ((Kept.refl (fun _ => False) w).drewN q) (fun h => h)) hbb (by omega)
  have HC := Lib.hid hcall
  have HE := Lib.hid he
  have hn1 := nil_ahead
  have hn2 := method_read
  have k0 : ((x.toNat : Int) == 0) = false := by rw [hx]; rfl
  have k1 : ((x.toNat : Int) == 1) = true := by rw [hx]; rfl
  have hb1 : (bits .and .u32 ((By.u32 true l : Nat) : Int) 536870912 == 0) = false := by
    have e := and_u32 (By.u32 true l) 536870912 (By.u32_lt true l) (by omega)
    have e2 : ((536870912 : Nat) : Int) = 536870912 := rfl
    rw [e2] at e
    rw [e]
    simp; omega
  clear hx ht
  clear h hb he hcall
  go_enter Tryz.func57, Tryz.ntmps57
  go_wp2_with fail
  go_region_held3 (fun w' => True) (exact trivial) ((go_at_call 109; refine (HC.out _).mono ?_; rintro e w1 ⟨rfl, hR, hB, hK⟩))
  have hx0 : w1.cell? ⟨bb, 0, none⟩ = some (.int .u8 x.toNat) := by
    have := buf_bytes (l := x :: l) (k := 1) hB 0 x rfl
    simpa using this
  have hE1 := HE.out.kept (kept_un hK) (fun b hb => by rcases hb with rfl | rfl <;> omega)
  have HR := Lib.hid (show Rd S w1 l from hR)
  have HB := Lib.hid hB
  have HK := Lib.hid (show Kept (Two S bb) w w1 from kept_un hK)
  have HE1 := Lib.hid hE1
  have hcall2 := r32_some S bb 8 true _ w1 l (by omega) hl4 hR hB hbb
  clear hR hB hK HC hE1 HB
  go_wp2_with fail
  refine hcall2.mono ?_
  rintro e w2 ⟨rfl, hR2, hB2, hK2⟩
  obtain ⟨cur2, hB2⟩ := hB2
  have HR2 := Lib.hid hR2
  have HB2 := Lib.hid hB2
  have HK2 := Lib.hid (HK.out.same hK2)
  have HE2 := Lib.hid (HE1.out.kept hK2 (fun b hb => by rcases hb with rfl | rfl <;> omega))
  clear hK2 hcall2 hR2 hB2
  go_wp2_with fail
  refine (r32_none S bb 8 true _ w2 (l.drop 4) (by omega) hl HR2.out HB2.out hbb HE2.out h13).mono ?_
  rintro e w3 ⟨a, rfl, hK3⟩
  have HK3 := Lib.hid (HK2.out.same hK3)
  clear hK3
  go_wp2_with fail
  refine bodyPost_ret (v := .tuple #[.int .i64 0, .int .u32 0, .int .i64 0, .iface 203 (.pointer (some a.1))]) (by simp [results, Tryz.results57, go_sem]) rfl ?_
  exact ⟨a, rfl, HK3.out⟩
set_option maxRecDepth 100000 in
set_option maxHeartbeats 1000000 in
theorem rh_le_two (S : Src) (bb : Nat) (cur : List Value) (w : World) (x : UInt8) (l : By.Bs) (h : Rd S w (x :: l)) (hb : Buf w bb cur) (hbb : S.rb < bb) (he : Errs A w) (h13 : 13 ≤ S.rb) (hx : x = 1) (hl4 : 4 ≤ l.length) (ht : ¬ By.u32 true l &&& 536870912 = 0) (hl : 4 ≤ (l.drop 4).length) :
    Calls Tryz.prog 57 #[.iface 60 (.pointer (some ⟨S.rb, 0, none⟩)), .slice (some ⟨bb, 0, none⟩) 8 8] w (HeadRead S bb true (By.u32 true l &&& 255) ((l.drop 4).drop 4) w) := by
  have hcall := fun q => read_some S bb 0 1 8 cur (w.drewN q) (x :: l) (by simp) (h.kept ((Kept.refl (fun _ => False) w).drewN q) (fun _ h => h.elim)) (hb.kept ((Kept.refl (fun _ => False) w).drewN q) (fun h => h)) hbb (by omega)
  have HC := Lib.hid hcall
  have HE := Lib.hid he
  have hn1 := nil_ahead
  have hn2 := method_read
  have k0 : ((x.toNat : Int) == 0) = false := by rw [hx]; rfl
  have k1 : ((x.toNat : Int) == 1) = true := by rw [hx]; rfl
  have hb1 : (bits .and .u32 ((By.u32 true l : Nat) : Int) 536870912 == 0) = false := by
    have e := and_u32 (By.u32 true l) 536870912 (By.u32_lt true l) (by omega)
    have e2 : ((536870912 : Nat) : Int) = 536870912 := rfl
    rw [e2] at e
    rw [e]
    simp; omega
  clear hx ht
  have hb2 : bits .and .u32 ((By.u32 true l : Nat) : Int) 255 = ((By.u32 true l &&& 255 : Nat) : Int) := and_u32 (By.u32 true l) 255 (By.u32_lt true l) (by omega)
  have hb3 := By.u32_lt true (l.drop 4)
  clear h hb he hcall
  go_enter Tryz.func57, Tryz.ntmps57
  go_wp2_with fail
  go_region_held3 (fun w' => True) (exact trivial) ((go_at_call 109; refine (HC.out _).mono ?_; rintro e w1 ⟨rfl, hR, hB, hK⟩))
  have hx0 : w1.cell? ⟨bb, 0, none⟩ = some (.int .u8 x.toNat) := by
    have := buf_bytes (l := x :: l) (k := 1) hB 0 x rfl
    simpa using this
  have hE1 := HE.out.kept (kept_un hK) (fun b hb => by rcases hb with rfl | rfl <;> omega)
  have HR := Lib.hid (show Rd S w1 l from hR)
  have HB := Lib.hid hB
  have HK := Lib.hid (show Kept (Two S bb) w w1 from kept_un hK)
  have HE1 := Lib.hid hE1
  have hcall2 := r32_some S bb 8 true _ w1 l (by omega) hl4 hR hB hbb
  clear hR hB hK HC hE1 HB
  go_wp2_with fail
  refine hcall2.mono ?_
  rintro e w2 ⟨rfl, hR2, hB2, hK2⟩
  obtain ⟨cur2, hB2⟩ := hB2
  have HR2 := Lib.hid hR2
  have HB2 := Lib.hid hB2
  have HK2 := Lib.hid (HK.out.same hK2)
  have HE2 := Lib.hid (HE1.out.kept hK2 (fun b hb => by rcases hb with rfl | rfl <;> omega))
  clear hK2 hcall2 hR2 hB2
  go_wp2_with fail
  refine (r32_some S bb 8 true _ w2 (l.drop 4) (by omega) hl HR2.out HB2.out hbb).mono ?_
  rintro e w3 ⟨rfl, hR3, hB3, hK3⟩
  have HR3 := Lib.hid (⟨hR3, hB3⟩ : _ ∧ _)
  have HK3 := Lib.hid (HK2.out.same hK3)
  clear hK3 hR3 hB3
  go_wp2_with fail
  refine bodyPost_ret (v := .tuple #[.int .i64 1, .int .u32 ((By.u32 true l &&& 255 : Nat) : Int), .int .i64 (By.u32 true (l.drop 4)), .nilIface]) (by simp [results, Tryz.results57, go_sem]) rfl ?_
  exact ⟨_, rfl, HR3.out.1, HR3.out.2, HK3.out⟩

theorem rh_some (S : Src) (bb : Nat) (cur : List Value) (w : World) (l r : By.Bs) (le : Bool) (k : Nat) (hh : By.rHead l = some (le, k, r)) (h : Rd S w l) (hb : Buf w bb cur) (hbb : S.rb < bb) (he : Errs A w) (h13 : 13 ≤ S.rb) :
    Calls Tryz.prog 57 #[.iface 60 (.pointer (some ⟨S.rb, 0, none⟩)), .slice (some ⟨bb, 0, none⟩) 8 8] w (HeadRead S bb le k r w) := by
  unfold By.rHead By.order at hh
  cases l with
  | nil => cases hh
  | cons x l =>
    simp only at hh
    by_cases h0 : x = 0
    · rw [if_pos h0] at hh
      by_cases h4 : l.length < 4
      · simp [By.rU32, h4] at hh
      · simp only [By.rU32, if_neg h4] at hh
        by_cases ht : By.u32 false l &&& 536870912 = 0
        · simp only [if_pos ht] at hh
          cases hh
          exact rh_be_one S bb cur w x l h hb hbb he h13 h0 (by omega) ht
        · simp only [if_neg ht] at hh
          by_cases h5 : (l.drop 4).length < 4
          · simp only [if_pos h5] at hh; cases hh
          · simp only [if_neg h5] at hh
            cases hh
            exact rh_be_two S bb cur w x l h hb hbb he h13 h0 (by omega) ht (by omega)
    · rw [if_neg h0] at hh
      by_cases h1 : x = 1
      · rw [if_pos h1] at hh
        by_cases h4 : l.length < 4
        · simp [By.rU32, h4] at hh
        · simp only [By.rU32, if_neg h4] at hh
          by_cases ht : By.u32 true l &&& 536870912 = 0
          · simp only [if_pos ht] at hh
            cases hh
            exact rh_le_one S bb cur w x l h hb hbb he h13 h1 (by omega) ht
          · simp only [if_neg ht] at hh
            by_cases h5 : (l.drop 4).length < 4
            · simp only [if_pos h5] at hh; cases hh
            · simp only [if_neg h5] at hh
              cases hh
              exact rh_le_two S bb cur w x l h hb hbb he h13 h1 (by omega) ht (by omega)
      · rw [if_neg h1] at hh
        cases hh
theorem rh_fail (S : Src) (bb : Nat) (cur : List Value) (w : World) (l : By.Bs) (hh : By.rHead l = none) (h : Rd S w l) (hb : Buf w bb cur) (hbb : S.rb < bb) (he : Errs A w) (h13 : 13 ≤ S.rb) :
    Calls Tryz.prog 57 #[.iface 60 (.pointer (some ⟨S.rb, 0, none⟩)), .slice (some ⟨bb, 0, none⟩) 8 8] w (HeadFail A S bb w) := by
  unfold By.rHead By.order at hh
  cases l with
  | nil => exact rh_none S bb w h he
  | cons x l =>
    simp only at hh
    by_cases h0 : x = 0
    · rw [if_pos h0] at hh
      by_cases h4 : l.length < 4
      · exact rh_be_none S bb cur w x l h hb hbb he h13 h0 (by unfold By.rU32; rw [if_pos h4])
      · simp only [By.rU32, if_neg h4] at hh
        by_cases ht : By.u32 false l &&& 536870912 = 0
        · simp only [if_pos ht] at hh
          cases hh
        · simp only [if_neg ht] at hh
          by_cases h5 : (l.drop 4).length < 4
          · exact rh_be_two_none S bb cur w x l h hb hbb he h13 h0 (by omega) ht h5
          · simp only [if_neg h5] at hh
            cases hh
    · rw [if_neg h0] at hh
      by_cases h1 : x = 1
      · rw [if_pos h1] at hh
        by_cases h4 : l.length < 4
        · exact rh_le_none S bb cur w x l h hb hbb he h13 h1 (by unfold By.rU32; rw [if_pos h4])
        · simp only [By.rU32, if_neg h4] at hh
          by_cases ht : By.u32 true l &&& 536870912 = 0
          · simp only [if_pos ht] at hh
            cases hh
          · simp only [if_neg ht] at hh
            by_cases h5 : (l.drop 4).length < 4
            · exact rh_le_two_none S bb cur w x l h hb hbb he h13 h1 (by omega) ht h5
            · simp only [if_neg h5] at hh
              cases hh
      · exact rh_bad S bb cur w x l h hb hbb he h13 h0 h1
end Go.Proofs.YtjbjjphgnilhmaaGreatDoor
