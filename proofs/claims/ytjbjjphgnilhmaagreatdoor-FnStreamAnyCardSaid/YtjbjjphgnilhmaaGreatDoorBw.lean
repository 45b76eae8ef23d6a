/- The walk of readPoint. -/
import Derived.Test.YtjbjjphgnilhmaaGreatDoorBt
set_option linter.unusedVariables false
namespace Go.Proofs.YtjbjjphgnilhmaaGreatDoor
open Go.RowKit
variable {A : Addr → Prop}

theorem results_row2 {P : Program} {fn : Func} {p u : Tmp} {ty : TypeId} (h : fn.results = #[.cell p ty, .tmp u]) (tmps : Array Value) (w : World) (g : Nat) (t : TypeId) (cs : Array Value) (fr : Nat × Nat) (d : TypeDesc)
    (hp : tmps.getD p undef = .pointer (some ⟨g, 0, none⟩)) (hg : w.heap[g]? = some (.cells cs t fr))
    (hu : P.underlying ty = some d) (hd : (match d with | .struct _ | .array _ _ => true | _ => false) = true) (hi : (P.info? ty).map (·.size) = some cs.size) :
    (results fn tmps).run P w = .ok (.tuple #[.agg cs, tmps.getD u undef]) w := by
  rw [results_cell_tmp h, hp]
  simp [asAddr, run_loadVar_row w g t ty cs fr d hg hu hd hi]
/-- A new block of two floats. -/
abbrev ZZ : Obj := .cells #[.float .f64 0, .float .f64 0] 68
/-- What reading of a point has turned: the reader, the buffer, two new blocks. -/
structure PtSt (S : Src) (bb : Nat) (w W : World) (l : By.Bs) (x : Nat) : Prop where
  rd : Rd S W l
  buf : ∃ cur, Buf W bb cur
  res : Blk W w.heap.size #[.float .f64 0, .float .f64 0] 68
  pt : Blk W (w.heap.size + 1) #[.float .f64 x, .float .f64 0] 68
  kept : Kept (Two S bb) w W
theorem PtSt.start {S : Src} {bb : Nat} {w : World} {l : By.Bs} {cur : List Value} (h : Rd S w l) (hb : Buf w bb cur) : PtSt S bb w ((w.alloc ZZ).alloc ZZ) l 0 := by
  have k : Kept (fun _ => False) w ((w.alloc ZZ).alloc ZZ) := ((Kept.refl _ w).alloc _).alloc _
  refine ⟨h.kept k (fun _ h => h.elim), ⟨cur, hb.kept k id⟩, (Blk.new w _ _).alloc _, ?_, k.weaken fun _ _ h => h.elim⟩
  have := Blk.new (w.alloc ZZ) #[.float .f64 0, .float .f64 0] 68
  rwa [World.size_alloc] at this
theorem PtSt.kept' {S : Src} {bb : Nat} {w W W' : World} {l l' : By.Bs} {x : Nat} (h : PtSt S bb w W l x) (hs : bb < w.heap.size) (hbb : S.rb < bb) (hk : Kept (Two S bb) W W') (hr : Rd S W' l') (hb : ∃ cur, Buf W' bb cur) : PtSt S bb w W' l' x :=
  ⟨hr, hb, (hk.block _ h.res.lt (fun e => by rcases e with e | e <;> omega)).trans h.res, (hk.block _ h.pt.lt (fun e => by rcases e with e | e <;> omega)).trans h.pt, h.kept.same hk⟩
theorem PtSt.set0 {S : Src} {bb : Nat} {w W : World} {l : By.Bs} (h : PtSt S bb w W l 0) (hs : bb < w.heap.size) (hbb : S.rb < bb) (x : Nat) : PtSt S bb w (W.setCell ⟨w.heap.size + 1, 0, none⟩ (.float .f64 x)) l x := by
  have k : Kept (fun b => b = w.heap.size + 1) W (W.setCell ⟨w.heap.size + 1, 0, none⟩ (.float .f64 x)) := (Kept.refl _ W).setCell _ _ (.inr rfl)
  obtain ⟨cur, hb⟩ := h.buf
  refine ⟨h.rd.kept k (fun b hb => by have := h.rd.lt; omega), ⟨cur, hb.kept k (by omega)⟩, (k.block _ h.res.lt (by omega)).trans h.res, h.pt.set 0 _, h.kept.trans k fun b hb he => by omega⟩
theorem Two.fresh {S : Src} {bb : Nat} {w W W' : World} (h : Kept (Two S bb) w W) {g : Nat} (hg : w.heap.size ≤ g) (i : Nat) (u : Value) : Kept (Two S bb) w (W.setCell ⟨g, i, none⟩ u) := h.setCell _ _ (.inl hg)


set_option maxRecDepth 100000 in
set_option maxHeartbeats 1000000 in
theorem rp_be (S : Src) (bb : Nat) (cur : List Value) (w : World) (l : By.Bs) (h : Rd S w l) (hb : Buf w bb cur) (hbb : S.rb < bb) (hl16 : 16 ≤ l.length) :
    Calls Tryz.prog 58 #[.iface 60 (.pointer (some ⟨S.rb, 0, none⟩)), .int .i64 0, .slice (some ⟨bb, 0, none⟩) 8 8] w fun e w' => e = .returned (.tuple #[.agg #[.float .f64 (By.u64 false l), .float .f64 (By.u64 false (l.drop 8))], .nilIface]) ∧ Rd S w' (l.drop 16) ∧ (∃ cur', Buf w' bb cur') ∧ Kept (Two S bb) w w' := by
  have hl : 8 ≤ l.length := by omega
  have hs : bb < w.heap.size := (Array.getElem?_eq_some_iff.1 hb.2).1
  have st0 := PtSt.start h hb
  obtain ⟨cur0, hb0⟩ := st0.buf
  have hcall1 := rf_full S bb 8 8 cur0 ((w.alloc ZZ).alloc ZZ) l (by omega) (by omega) hl st0.rd hb0 hbb (by omega)
  have HS0 := Lib.hid st0
  have HL := Lib.hid hl
  have hk := call_frombits
  clear h hb hl st0 hb0
  go_enter Tryz.func58, Tryz.ntmps58
  go_wp2_with fail
  refine wp_loop_rounds 3 ?_
  rw [rounds_succ]
  go_wp2_with fail
  refine hcall1.mono ?_
  rintro e w1 ⟨rfl, hR, hB, hK⟩
  have st1 := HS0.out.kept' hs hbb hK hR ⟨_, hB⟩
  have hx1 := buf_bytes hB
  obtain ⟨b0, f0⟩ := st1.pt.cell (i := 0) rfl
  have hcall2 := be64_call bb 0 8 8 (l.take 8) w1 (by have := HL.out; simp; omega) (by omega) (by omega) hx1
  rw [u64_take] at hcall2
  obtain ⟨x, hxe⟩ : ∃ x, x = By.u64 false l := ⟨_, rfl⟩
  rw [← hxe] at hcall2
  obtain ⟨W2, hW2⟩ : ∃ W, W = w1.setCell ⟨w.heap.size + 1, 0, none⟩ (.float .f64 x) := ⟨_, rfl⟩
  have st2 := st1.set0 hs hbb x
  rw [← hW2] at st2
  have HS2 := Lib.hid st2
  have HW2 := Lib.hid hW2
  have HXE := Lib.hid hxe
  clear hcall1 hR hB hK st1 hx1 st2 hW2 hxe
  go_wp2_with fail
  refine hcall2.mono ?_
  rintro e w1' ⟨rfl, q, rfl⟩
  clear hcall2
  go_wp2_with fail
  rw [← HW2.out]
  rw [rounds_succ]
  clear b0 f0
  have st3 : PtSt S bb w (W2.drewN q) (l.drop 8) x := HS2.out.kept' hs hbb ((Kept.refl _ W2).drewN q) (HS2.out.rd.kept ((Kept.refl (fun _ => False) W2).drewN q) (fun _ h => h.elim)) (HS2.out.buf.imp fun cur h => h.kept ((Kept.refl (fun _ => False) W2).drewN q) id)
  obtain ⟨cur3, hb3⟩ := st3.buf
  have hcall3 := rf_full S bb 8 8 cur3 (W2.drewN q) (l.drop 8) (by omega) (by omega) (by rw [List.length_drop]; omega) st3.rd hb3 hbb (by omega)
  rw [List.drop_drop] at hcall3
  have HS3 := Lib.hid st3
  clear st3 hb3
  go_wp2_with fail
  refine hcall3.mono ?_
  rintro e w4 ⟨rfl, hR, hB, hK⟩
  have st4 := HS3.out.kept' hs hbb hK hR ⟨_, hB⟩
  have hx4 := buf_bytes hB
  obtain ⟨b0, f0⟩ := st4.pt.cell (i := 0) (v := .float .f64 x) rfl
  obtain ⟨b1, f1⟩ := st4.pt.cell (i := 1) (v := .float .f64 0) rfl
  have hcall5 := be64_call bb 0 8 8 ((l.drop 8).take 8) w4 (by simp; omega) (by omega) (by omega) hx4
  rw [u64_take] at hcall5
  obtain ⟨y, hye⟩ : ∃ y, y = By.u64 false (l.drop 8) := ⟨_, rfl⟩
  rw [← hye] at hcall5
  obtain ⟨W5, hW5⟩ : ∃ W, W = w4.setCell ⟨w.heap.size + 1, 1, none⟩ (.float .f64 y) := ⟨_, rfl⟩
  have k5 : Kept (fun b => b = w.heap.size + 1) w4 W5 := by rw [hW5]; exact (Kept.refl _ w4).setCell _ _ (.inr rfl)
  have p5 : Blk W5 (w.heap.size + 1) #[.float .f64 x, .float .f64 y] 68 := by rw [hW5]; exact st4.pt.set 1 _
  have r5 : Blk W5 w.heap.size #[.float .f64 0, .float .f64 0] 68 := (k5.block _ st4.res.lt (by omega)).trans st4.res
  obtain ⟨d0, _⟩ := p5.cell (i := 0) (v := .float .f64 x) rfl
  obtain ⟨d1, _⟩ := p5.cell (i := 1) (v := .float .f64 y) rfl
  obtain ⟨e0, g0⟩ := r5.cell (i := 0) (v := .float .f64 0) rfl
  obtain ⟨e1, g1⟩ := r5.cell (i := 1) (v := .float .f64 0) rfl
  obtain ⟨cur4, hb4⟩ := st4.buf
  have HFin := Lib.hid (⟨st4.rd.kept k5 (fun b hb => by have := st4.rd.lt; omega), ⟨cur4, hb4.kept k5 (by omega)⟩, st4.kept.trans k5 (fun b hb he => by omega), r5⟩ : Rd S W5 (l.drop (8 + 8)) ∧ (∃ cur', Buf W5 bb cur') ∧ Kept (Two S bb) w W5 ∧ Blk W5 w.heap.size #[.float .f64 0, .float .f64 0] 68)
  have HW5 := Lib.hid hW5
  have HYE := Lib.hid hye
  clear hcall3 hR hB hK st4 hx4 hW5 hye k5 p5 r5 hb4 HS3
  go_wp2_with fail
  refine hcall5.mono ?_
  rintro e w4' ⟨rfl, q5, rfl⟩
  clear hcall5
  go_wp2_with fail
  rw [← HW5.out]
  rw [rounds_succ]
  clear b0 f0 b1 f1
  go_wp2_with fail
  refine bodyPost_ret (results_row2 Tryz.results58 _ _ w.heap.size 68 #[.float .f64 x, .float .f64 y] (0, 0) _ rfl ?hg Tryz.underlying68 rfl size68) rfl ?_
  case hg => exact (((HFin.out.2.2.2.set 0 (.float .f64 x)).set 1 (.float .f64 y)))
  have kf : Kept (fun b => b = w.heap.size) W5 (((W5.setCell ⟨w.heap.size, 0, none⟩ (.float .f64 x)).setCell ⟨w.heap.size, 1, none⟩ (.float .f64 y)).drewN q5) := (((Kept.refl (fun b => b = w.heap.size) W5).setCell ⟨w.heap.size, 0, none⟩ _ (.inr rfl)).setCell ⟨w.heap.size, 1, none⟩ _ (.inr rfl)).drewN q5
  rw [← HXE.out, ← HYE.out]
  refine ⟨rfl, HFin.out.1.kept kf (fun b hb => by subst hb; omega), ?_, HFin.out.2.2.1.trans kf (fun b hb he => by omega)⟩
  obtain ⟨c4, hc4⟩ := HFin.out.2.1
  exact ⟨c4, hc4.kept kf (by omega)⟩


set_option maxRecDepth 100000 in
set_option maxHeartbeats 1000000 in
theorem rp_le (S : Src) (bb : Nat) (cur : List Value) (w : World) (l : By.Bs) (h : Rd S w l) (hb : Buf w bb cur) (hbb : S.rb < bb) (hl16 : 16 ≤ l.length) :
    Calls Tryz.prog 58 #[.iface 60 (.pointer (some ⟨S.rb, 0, none⟩)), .int .i64 1, .slice (some ⟨bb, 0, none⟩) 8 8] w fun e w' => e = .returned (.tuple #[.agg #[.float .f64 (By.u64 true l), .float .f64 (By.u64 true (l.drop 8))], .nilIface]) ∧ Rd S w' (l.drop 16) ∧ (∃ cur', Buf w' bb cur') ∧ Kept (Two S bb) w w' := by
  have hl : 8 ≤ l.length := by omega
  have hs : bb < w.heap.size := (Array.getElem?_eq_some_iff.1 hb.2).1
  have st0 := PtSt.start h hb
  obtain ⟨cur0, hb0⟩ := st0.buf
  have hcall1 := rf_full S bb 8 8 cur0 ((w.alloc ZZ).alloc ZZ) l (by omega) (by omega) hl st0.rd hb0 hbb (by omega)
  have HS0 := Lib.hid st0
  have HL := Lib.hid hl
  have hk := call_frombits
  clear h hb hl st0 hb0
  go_enter Tryz.func58, Tryz.ntmps58
  go_wp2_with fail
  refine wp_loop_rounds 3 ?_
  rw [rounds_succ]
  go_wp2_with fail
  refine hcall1.mono ?_
  rintro e w1 ⟨rfl, hR, hB, hK⟩
  have st1 := HS0.out.kept' hs hbb hK hR ⟨_, hB⟩
  have hx1 := buf_bytes hB
  obtain ⟨b0, f0⟩ := st1.pt.cell (i := 0) rfl
  have hcall2 := le64_call bb 0 8 8 (l.take 8) w1 (by have := HL.out; simp; omega) (by omega) (by omega) hx1
  rw [u64_take] at hcall2
  obtain ⟨x, hxe⟩ : ∃ x, x = By.u64 true l := ⟨_, rfl⟩
  rw [← hxe] at hcall2
  obtain ⟨W2, hW2⟩ : ∃ W, W = w1.setCell ⟨w.heap.size + 1, 0, none⟩ (.float .f64 x) := ⟨_, rfl⟩
  have st2 := st1.set0 hs hbb x
  rw [← hW2] at st2
  have HS2 := Lib.hid st2
  have HW2 := Lib.hid hW2
  have HXE := Lib.hid hxe
  clear hcall1 hR hB hK st1 hx1 st2 hW2 hxe
  go_wp2_with fail
  refine hcall2.mono ?_
  rintro e w1' ⟨rfl, q, rfl⟩
  clear hcall2
  go_wp2_with fail
  rw [← HW2.out]
  rw [rounds_succ]
  clear b0 f0
  have st3 : PtSt S bb w (W2.drewN q) (l.drop 8) x := HS2.out.kept' hs hbb ((Kept.refl _ W2).drewN q) (HS2.out.rd.kept ((Kept.refl (fun _ => False) W2).drewN q) (fun _ h => h.elim)) (HS2.out.buf.imp fun cur h => h.kept ((Kept.refl (fun _ => False) W2).drewN q) id)
  obtain ⟨cur3, hb3⟩ := st3.buf
  have hcall3 := rf_full S bb 8 8 cur3 (W2.drewN q) (l.drop 8) (by omega) (by omega) (by rw [List.length_drop]; omega) st3.rd hb3 hbb (by omega)
  rw [List.drop_drop] at hcall3
  have HS3 := Lib.hid st3
  clear st3 hb3
  go_wp2_with fail
  refine hcall3.mono ?_
  rintro e w4 ⟨rfl, hR, hB, hK⟩
  have st4 := HS3.out.kept' hs hbb hK hR ⟨_, hB⟩
  have hx4 := buf_bytes hB
  obtain ⟨b0, f0⟩ := st4.pt.cell (i := 0) (v := .float .f64 x) rfl
  obtain ⟨b1, f1⟩ := st4.pt.cell (i := 1) (v := .float .f64 0) rfl
  have hcall5 := le64_call bb 0 8 8 ((l.drop 8).take 8) w4 (by simp; omega) (by omega) (by omega) hx4
  rw [u64_take] at hcall5
  obtain ⟨y, hye⟩ : ∃ y, y = By.u64 true (l.drop 8) := ⟨_, rfl⟩
  rw [← hye] at hcall5
  obtain ⟨W5, hW5⟩ : ∃ W, W = w4.setCell ⟨w.heap.size + 1, 1, none⟩ (.float .f64 y) := ⟨_, rfl⟩
  have k5 : Kept (fun b => b = w.heap.size + 1) w4 W5 := by rw [hW5]; exact (Kept.refl _ w4).setCell _ _ (.inr rfl)
  have p5 : Blk W5 (w.heap.size + 1) #[.float .f64 x, .float .f64 y] 68 := by rw [hW5]; exact st4.pt.set 1 _
  have r5 : Blk W5 w.heap.size #[.float .f64 0, .float .f64 0] 68 := (k5.block _ st4.res.lt (by omega)).trans st4.res
  obtain ⟨d0, _⟩ := p5.cell (i := 0) (v := .float .f64 x) rfl
  obtain ⟨d1, _⟩ := p5.cell (i := 1) (v := .float .f64 y) rfl
  obtain ⟨e0, g0⟩ := r5.cell (i := 0) (v := .float .f64 0) rfl
  obtain ⟨e1, g1⟩ := r5.cell (i := 1) (v := .float .f64 0) rfl
  obtain ⟨cur4, hb4⟩ := st4.buf
  have HFin := Lib.hid (⟨st4.rd.kept k5 (fun b hb => by have := st4.rd.lt; omega), ⟨cur4, hb4.kept k5 (by omega)⟩, st4.kept.trans k5 (fun b hb he => by omega), r5⟩ : Rd S W5 (l.drop (8 + 8)) ∧ (∃ cur', Buf W5 bb cur') ∧ Kept (Two S bb) w W5 ∧ Blk W5 w.heap.size #[.float .f64 0, .float .f64 0] 68)
  have HW5 := Lib.hid hW5
  have HYE := Lib.hid hye
  clear hcall3 hR hB hK st4 hx4 hW5 hye k5 p5 r5 hb4 HS3
  go_wp2_with fail
  refine hcall5.mono ?_
  rintro e w4' ⟨rfl, q5, rfl⟩
  clear hcall5
  go_wp2_with fail
  rw [← HW5.out]
  rw [rounds_succ]
  clear b0 f0 b1 f1
  go_wp2_with fail
  refine bodyPost_ret (results_row2 Tryz.results58 _ _ w.heap.size 68 #[.float .f64 x, .float .f64 y] (0, 0) _ rfl ?hg Tryz.underlying68 rfl size68) rfl ?_
  case hg => exact (((HFin.out.2.2.2.set 0 (.float .f64 x)).set 1 (.float .f64 y)))
  have kf : Kept (fun b => b = w.heap.size) W5 (((W5.setCell ⟨w.heap.size, 0, none⟩ (.float .f64 x)).setCell ⟨w.heap.size, 1, none⟩ (.float .f64 y)).drewN q5) := (((Kept.refl (fun b => b = w.heap.size) W5).setCell ⟨w.heap.size, 0, none⟩ _ (.inr rfl)).setCell ⟨w.heap.size, 1, none⟩ _ (.inr rfl)).drewN q5
  rw [← HXE.out, ← HYE.out]
  refine ⟨rfl, HFin.out.1.kept kf (fun b hb => by subst hb; omega), ?_, HFin.out.2.2.1.trans kf (fun b hb he => by omega)⟩
  obtain ⟨c4, hc4⟩ := HFin.out.2.1
  exact ⟨c4, hc4.kept kf (by omega)⟩

set_option maxRecDepth 100000 in
set_option maxHeartbeats 1000000 in
theorem rp_be_half (S : Src) (bb : Nat) (cur : List Value) (w : World) (l : By.Bs) (h : Rd S w l) (hb : Buf w bb cur) (hbb : S.rb < bb) (hl : 8 ≤ l.length) (hl16 : l.length < 16) (he : Errs A w) (h13 : 13 ≤ S.rb) :
    Calls Tryz.prog 58 #[.iface 60 (.pointer (some ⟨S.rb, 0, none⟩)), .int .i64 0, .slice (some ⟨bb, 0, none⟩) 8 8] w fun e w' => ∃ a : {a // A a}, e = .returned (.tuple #[.agg #[.float .f64 0, .float .f64 0], .iface 203 (.pointer (some a.1))]) ∧ Kept (Two S bb) w w' := by
  have hs : bb < w.heap.size := (Array.getElem?_eq_some_iff.1 hb.2).1
  have st0 := PtSt.start h hb
  obtain ⟨cur0, hb0⟩ := st0.buf
  have hcall1 := rf_full S bb 8 8 cur0 ((w.alloc ZZ).alloc ZZ) l (by omega) (by omega) hl st0.rd hb0 hbb (by omega)
  have HS0 := Lib.hid st0
  have HL := Lib.hid hl
  have hk := call_frombits
  have HE := Lib.hid he
  clear h hb hl st0 hb0 he
  go_enter Tryz.func58, Tryz.ntmps58
  go_wp2_with fail
  refine wp_loop_rounds 3 ?_
  rw [rounds_succ]
  go_wp2_with fail
  refine hcall1.mono ?_
  rintro e w1 ⟨rfl, hR, hB, hK⟩
  have st1 := HS0.out.kept' hs hbb hK hR ⟨_, hB⟩
  have hx1 := buf_bytes hB
  obtain ⟨b0, f0⟩ := st1.pt.cell (i := 0) rfl
  have hcall2 := be64_call bb 0 8 8 (l.take 8) w1 (by have := HL.out; simp; omega) (by omega) (by omega) hx1
  rw [u64_take] at hcall2
  obtain ⟨x, hxe⟩ : ∃ x, x = By.u64 false l := ⟨_, rfl⟩
  rw [← hxe] at hcall2
  obtain ⟨W2, hW2⟩ : ∃ W, W = w1.setCell ⟨w.heap.size + 1, 0, none⟩ (.float .f64 x) := ⟨_, rfl⟩
  have st2 := st1.set0 hs hbb x
  rw [← hW2] at st2
  have HS2 := Lib.hid st2
  have HW2 := Lib.hid hW2
  have HXE := Lib.hid hxe
  clear hcall1 hR hB hK st1 hx1 st2 hW2 hxe
  go_wp2_with fail
  refine hcall2.mono ?_
  rintro e w1' ⟨rfl, q, rfl⟩
  clear hcall2
  go_wp2_with fail
  rw [← HW2.out]
  rw [rounds_succ]
  clear b0 f0
  have st3 : PtSt S bb w (W2.drewN q) (l.drop 8) x := HS2.out.kept' hs hbb ((Kept.refl _ W2).drewN q) (HS2.out.rd.kept ((Kept.refl (fun _ => False) W2).drewN q) (fun _ h => h.elim)) (HS2.out.buf.imp fun cur h => h.kept ((Kept.refl (fun _ => False) W2).drewN q) id)
  obtain ⟨cur3, hb3⟩ := st3.buf
  have hE3 : Errs A (W2.drewN q) := HE.out.kept st3.kept (fun b hb => by rcases hb with rfl | rfl <;> omega)
  have hcall3 := rf_short S bb 8 8 cur3 (W2.drewN q) (l.drop 8) (by omega) (by rw [List.length_drop]; omega) st3.rd hb3 hbb (by omega) hE3 h13
  have HS3 := Lib.hid st3
  clear st3 hb3 hE3
  go_wp2_with fail
  refine hcall3.mono ?_
  rintro e w4 ⟨m, a, rfl, hK⟩
  have r4 : Blk w4 w.heap.size #[.float .f64 0, .float .f64 0] 68 := (hK.block _ HS3.out.res.lt (fun e => by rcases e with e | e <;> omega)).trans HS3.out.res
  obtain ⟨e0, g0⟩ := r4.cell (i := 0) (v := .float .f64 0) rfl
  obtain ⟨e1, g1⟩ := r4.cell (i := 1) (v := .float .f64 0) rfl
  have HFin := Lib.hid (⟨HS3.out.kept.same hK, r4⟩ : _ ∧ _)
  clear hcall3 hK r4 HS3
  go_wp2_with fail
  refine bodyPost_ret (results_row2 Tryz.results58 _ _ w.heap.size 68 #[.float .f64 0, .float .f64 0] (0, 0) _ rfl ?hg Tryz.underlying68 rfl size68) rfl ?_
  case hg => exact (((HFin.out.2.set 0 (.float .f64 0)).set 1 (.float .f64 0)))
  exact ⟨a, rfl, (HFin.out.1.setCell _ _ (.inl (Nat.le_refl _))).setCell _ _ (.inl (Nat.le_refl _))⟩
set_option maxRecDepth 100000 in
set_option maxHeartbeats 1000000 in
theorem rp_le_half (S : Src) (bb : Nat) (cur : List Value) (w : World) (l : By.Bs) (h : Rd S w l) (hb : Buf w bb cur) (hbb : S.rb < bb) (hl : 8 ≤ l.length) (hl16 : l.length < 16) (he : Errs A w) (h13 : 13 ≤ S.rb) :
    Calls Tryz.prog 58 #[.iface 60 (.pointer (some ⟨S.rb, 0, none⟩)), .int .i64 1, .slice (some ⟨bb, 0, none⟩) 8 8] w fun e w' => ∃ a : {a // A a}, e = .returned (.tuple #[.agg #[.float .f64 0, .float .f64 0], .iface 203 (.pointer (some a.1))]) ∧ Kept (Two S bb) w w' := by
  have hs : bb < w.heap.size := (Array.getElem?_eq_some_iff.1 hb.2).1
  have st0 := PtSt.start h hb
  obtain ⟨cur0, hb0⟩ := st0.buf
  have hcall1 := rf_full S bb 8 8 cur0 ((w.alloc ZZ).alloc ZZ) l (by omega) (by omega) hl st0.rd hb0 hbb (by omega)
  have HS0 := Lib.hid st0
  have HL := Lib.hid hl
  have hk := call_frombits
  have HE := Lib.hid he
  clear h hb hl st0 hb0 he
  go_enter Tryz.func58, Tryz.ntmps58
  go_wp2_with fail
  refine wp_loop_rounds 3 ?_
  rw [rounds_succ]
  go_wp2_with fail
  refine hcall1.mono ?_
  rintro e w1 ⟨rfl, hR, hB, hK⟩
  have st1 := HS0.out.kept' hs hbb hK hR ⟨_, hB⟩
  have hx1 := buf_bytes hB
  obtain ⟨b0, f0⟩ := st1.pt.cell (i := 0) rfl
  have hcall2 := le64_call bb 0 8 8 (l.take 8) w1 (by have := HL.out; simp; omega) (by omega) (by omega) hx1
  rw [u64_take] at hcall2
  obtain ⟨x, hxe⟩ : ∃ x, x = By.u64 true l := ⟨_, rfl⟩
  rw [← hxe] at hcall2
  obtain ⟨W2, hW2⟩ : ∃ W, W = w1.setCell ⟨w.heap.size + 1, 0, none⟩ (.float .f64 x) := ⟨_, rfl⟩
  have st2 := st1.set0 hs hbb x
  rw [← hW2] at st2
  have HS2 := Lib.hid st2
  have HW2 := Lib.hid hW2
  have HXE := Lib.hid hxe
  clear hcall1 hR hB hK st1 hx1 st2 hW2 hxe
  go_wp2_with fail
  refine hcall2.mono ?_
  rintro e w1' ⟨rfl, q, rfl⟩
  clear hcall2
  go_wp2_with fail
  rw [← HW2.out]
  rw [rounds_succ]
  clear b0 f0
  have st3 : PtSt S bb w (W2.drewN q) (l.drop 8) x := HS2.out.kept' hs hbb ((Kept.refl _ W2).drewN q) (HS2.out.rd.kept ((Kept.refl (fun _ => False) W2).drewN q) (fun _ h => h.elim)) (HS2.out.buf.imp fun cur h => h.kept ((Kept.refl (fun _ => False) W2).drewN q) id)
  obtain ⟨cur3, hb3⟩ := st3.buf
  have hE3 : Errs A (W2.drewN q) := HE.out.kept st3.kept (fun b hb => by rcases hb with rfl | rfl <;> omega)
  have hcall3 := rf_short S bb 8 8 cur3 (W2.drewN q) (l.drop 8) (by omega) (by rw [List.length_drop]; omega) st3.rd hb3 hbb (by omega) hE3 h13
  have HS3 := Lib.hid st3
  clear st3 hb3 hE3
  go_wp2_with fail
  refine hcall3.mono ?_
  rintro e w4 ⟨m, a, rfl, hK⟩
  have r4 : Blk w4 w.heap.size #[.float .f64 0, .float .f64 0] 68 := (hK.block _ HS3.out.res.lt (fun e => by rcases e with e | e <;> omega)).trans HS3.out.res
  obtain ⟨e0, g0⟩ := r4.cell (i := 0) (v := .float .f64 0) rfl
  obtain ⟨e1, g1⟩ := r4.cell (i := 1) (v := .float .f64 0) rfl
  have HFin := Lib.hid (⟨HS3.out.kept.same hK, r4⟩ : _ ∧ _)
  clear hcall3 hK r4 HS3
  go_wp2_with fail
  refine bodyPost_ret (results_row2 Tryz.results58 _ _ w.heap.size 68 #[.float .f64 0, .float .f64 0] (0, 0) _ rfl ?hg Tryz.underlying68 rfl size68) rfl ?_
  case hg => exact (((HFin.out.2.set 0 (.float .f64 0)).set 1 (.float .f64 0)))
  exact ⟨a, rfl, (HFin.out.1.setCell _ _ (.inl (Nat.le_refl _))).setCell _ _ (.inl (Nat.le_refl _))⟩

set_option maxRecDepth 100000 in
theorem rp_short (S : Src) (bb : Nat) (cur : List Value) (w : World) (l : By.Bs) (x : Int) (h : Rd S w l) (hb : Buf w bb cur) (hbb : S.rb < bb) (hl : l.length < 8) (he : Errs A w) (h13 : 13 ≤ S.rb) :
    Calls Tryz.prog 58 #[.iface 60 (.pointer (some ⟨S.rb, 0, none⟩)), .int .i64 x, .slice (some ⟨bb, 0, none⟩) 8 8] w fun e w' => ∃ a : {a // A a}, e = .returned (.tuple #[.agg #[.float .f64 0, .float .f64 0], .iface 203 (.pointer (some a.1))]) ∧ Kept (Two S bb) w w' := by
  have hs : bb < w.heap.size := (Array.getElem?_eq_some_iff.1 hb.2).1
  have st3 := PtSt.start h hb
  obtain ⟨cur3, hb3⟩ := st3.buf
  have hE3 : Errs A ((w.alloc ZZ).alloc ZZ) := he.kept st3.kept (fun b hb => by rcases hb with rfl | rfl <;> omega)
  have hcall3 := rf_short S bb 8 8 cur3 ((w.alloc ZZ).alloc ZZ) l (by omega) hl st3.rd hb3 hbb (by omega) hE3 h13
  have HS3 := Lib.hid st3
  clear st3 hb3 hE3 h hb he
  go_enter Tryz.func58, Tryz.ntmps58
  go_wp2_with fail
  refine wp_loop_rounds 2 ?_
  rw [rounds_succ]
  go_wp2_with fail
  refine hcall3.mono ?_
  rintro e w4 ⟨m, a, rfl, hK⟩
  have r4 : Blk w4 w.heap.size #[.float .f64 0, .float .f64 0] 68 := (hK.block _ HS3.out.res.lt (fun e => by rcases e with e | e <;> omega)).trans HS3.out.res
  obtain ⟨e0, g0⟩ := r4.cell (i := 0) (v := .float .f64 0) rfl
  obtain ⟨e1, g1⟩ := r4.cell (i := 1) (v := .float .f64 0) rfl
  have HFin := Lib.hid (⟨HS3.out.kept.same hK, r4⟩ : _ ∧ _)
  clear hcall3 hK r4 HS3
  go_wp2_with fail
  refine bodyPost_ret (results_row2 Tryz.results58 _ _ w.heap.size 68 #[.float .f64 0, .float .f64 0] (0, 0) _ rfl ?hg Tryz.underlying68 rfl size68) rfl ?_
  case hg => exact (((HFin.out.2.set 0 (.float .f64 0)).set 1 (.float .f64 0)))
  exact ⟨a, rfl, (HFin.out.1.setCell _ _ (.inl (Nat.le_refl _))).setCell _ _ (.inl (Nat.le_refl _))⟩
theorem rp_some (S : Src) (bb : Nat) (cur : List Value) (w : World) (l r : By.Bs) (le : Bool) (p : By.Pt) (hp : By.rPoint le l = some (p, r)) (h : Rd S w l) (hb : Buf w bb cur) (hbb : S.rb < bb) :
    Calls Tryz.prog 58 #[.iface 60 (.pointer (some ⟨S.rb, 0, none⟩)), .int .i64 (ordI le), .slice (some ⟨bb, 0, none⟩) 8 8] w fun e w' => e = .returned (.tuple #[.agg #[.float .f64 p.1, .float .f64 p.2], .nilIface]) ∧ Rd S w' r ∧ (∃ cur', Buf w' bb cur') ∧ Kept (Two S bb) w w' := by
  unfold By.rPoint at hp
  split at hp
  · cases hp
  · cases hp
    cases le
    · exact rp_be S bb cur w l h hb hbb (by omega)
    · exact rp_le S bb cur w l h hb hbb (by omega)
theorem rp_none (S : Src) (bb : Nat) (cur : List Value) (w : World) (l : By.Bs) (le : Bool) (hp : By.rPoint le l = none) (h : Rd S w l) (hb : Buf w bb cur) (hbb : S.rb < bb) (he : Errs A w) (h13 : 13 ≤ S.rb) :
    Calls Tryz.prog 58 #[.iface 60 (.pointer (some ⟨S.rb, 0, none⟩)), .int .i64 (ordI le), .slice (some ⟨bb, 0, none⟩) 8 8] w fun e w' => ∃ a : {a // A a}, e = .returned (.tuple #[.agg #[.float .f64 0, .float .f64 0], .iface 203 (.pointer (some a.1))]) ∧ Kept (Two S bb) w w' := by
  unfold By.rPoint at hp
  split at hp
  · by_cases h8 : l.length < 8
    · exact rp_short S bb cur w l _ h hb hbb h8 he h13
    · cases le
      · exact rp_be_half S bb cur w l h hb hbb (by omega) (by omega) he h13
      · exact rp_le_half S bb cur w l h hb hbb (by omega) (by omega) he h13
  · cases hp
end Go.Proofs.YtjbjjphgnilhmaaGreatDoor