/- The first call of (*Encoder).Encode, on every shape. -/
import Derived.Test.YtjbjjphgnilhmaaGreatDoorDk
set_option linter.unusedVariables false
set_option linter.unusedSimpArgs false
namespace Go.Proofs.YtjbjjphgnilhmaaGreatDoor
open Go.RowKit

theorem e0_ln (E : Enr) (g : Addr) (n cap : Nat) (x : By.Bs) (l : By.Bs) (w : World) (h : Enc0 E w l) (hfit0 : l.length + 1 ≤ E.S.cap)
    (hw : ∀ (b : Nat) (l' : By.Bs) (ws' : List Value) (w' : World), EncW (E.at b) w' l' ws' → Below E.B w w' → l'.length = l.length + 1 → Calls Tryz.prog 77 #[.pointer (some ⟨E.en, 0, none⟩), .slice (some g) n cap, .int .i64 0] w' (Wrote (E.at b) l' x w')) :
    Calls Tryz.prog 50 #[.pointer (some ⟨E.en, 0, none⟩), .iface 72 (.slice (some g) n cap), .int .i64 0] w fun e w' => ∃ b, Wrote (E.at b) l (ob E.le :: x) w e w' := by
  cases hle : E.le
  · exact e0_ln_false E g n cap x l w hle h hfit0 hw
  · exact e0_ln_true E g n cap x l w hle h hfit0 hw

theorem e0_pg (E : Enr) (g : Addr) (n cap : Nat) (x : By.Bs) (l : By.Bs) (w : World) (h : Enc0 E w l) (hfit0 : l.length + 1 ≤ E.S.cap)
    (hw : ∀ (b : Nat) (l' : By.Bs) (ws' : List Value) (w' : World), EncW (E.at b) w' l' ws' → Below E.B w w' → l'.length = l.length + 1 → Calls Tryz.prog 79 #[.pointer (some ⟨E.en, 0, none⟩), .slice (some g) n cap, .int .i64 0] w' (Wrote (E.at b) l' x w')) :
    Calls Tryz.prog 50 #[.pointer (some ⟨E.en, 0, none⟩), .iface 75 (.slice (some g) n cap), .int .i64 0] w fun e w' => ∃ b, Wrote (E.at b) l (ob E.le :: x) w e w' := by
  cases hle : E.le
  · exact e0_pg_false E g n cap x l w hle h hfit0 hw
  · exact e0_pg_true E g n cap x l w hle h hfit0 hw

theorem e0_mp (E : Enr) (g : Addr) (n cap : Nat) (x : By.Bs) (l : By.Bs) (w : World) (h : Enc0 E w l) (hfit0 : l.length + 1 ≤ E.S.cap)
    (hw : ∀ (b : Nat) (l' : By.Bs) (ws' : List Value) (w' : World), EncW (E.at b) w' l' ws' → Below E.B w w' → l'.length = l.length + 1 → Calls Tryz.prog 76 #[.pointer (some ⟨E.en, 0, none⟩), .slice (some g) n cap, .int .i64 0] w' (Wrote (E.at b) l' x w')) :
    Calls Tryz.prog 50 #[.pointer (some ⟨E.en, 0, none⟩), .iface 77 (.slice (some g) n cap), .int .i64 0] w fun e w' => ∃ b, Wrote (E.at b) l (ob E.le :: x) w e w' := by
  cases hle : E.le
  · exact e0_mp_false E g n cap x l w hle h hfit0 hw
  · exact e0_mp_true E g n cap x l w hle h hfit0 hw

theorem e0_ml (E : Enr) (g : Addr) (n cap : Nat) (x : By.Bs) (l : By.Bs) (w : World) (h : Enc0 E w l) (hfit0 : l.length + 1 ≤ E.S.cap)
    (hw : ∀ (b : Nat) (l' : By.Bs) (ws' : List Value) (w' : World), EncW (E.at b) w' l' ws' → Below E.B w w' → l'.length = l.length + 1 → Calls Tryz.prog 78 #[.pointer (some ⟨E.en, 0, none⟩), .slice (some g) n cap, .int .i64 0] w' (Wrote (E.at b) l' x w')) :
    Calls Tryz.prog 50 #[.pointer (some ⟨E.en, 0, none⟩), .iface 79 (.slice (some g) n cap), .int .i64 0] w fun e w' => ∃ b, Wrote (E.at b) l (ob E.le :: x) w e w' := by
  cases hle : E.le
  · exact e0_ml_false E g n cap x l w hle h hfit0 hw
  · exact e0_ml_true E g n cap x l w hle h hfit0 hw

theorem e0_mg (E : Enr) (g : Addr) (n cap : Nat) (x : By.Bs) (l : By.Bs) (w : World) (h : Enc0 E w l) (hfit0 : l.length + 1 ≤ E.S.cap)
    (hw : ∀ (b : Nat) (l' : By.Bs) (ws' : List Value) (w' : World), EncW (E.at b) w' l' ws' → Below E.B w w' → l'.length = l.length + 1 → Calls Tryz.prog 80 #[.pointer (some ⟨E.en, 0, none⟩), .slice (some g) n cap, .int .i64 0] w' (Wrote (E.at b) l' x w')) :
    Calls Tryz.prog 50 #[.pointer (some ⟨E.en, 0, none⟩), .iface 81 (.slice (some g) n cap), .int .i64 0] w fun e w' => ∃ b, Wrote (E.at b) l (ob E.le :: x) w e w' := by
  cases hle : E.le
  · exact e0_mg_false E g n cap x l w hle h hfit0 hw
  · exact e0_mg_true E g n cap x l w hle h hfit0 hw

theorem e0_co (E : Enr) (g : Addr) (n cap : Nat) (x : By.Bs) (l : By.Bs) (w : World) (h : Enc0 E w l) (hfit0 : l.length + 1 ≤ E.S.cap)
    (hw : ∀ (b : Nat) (l' : By.Bs) (ws' : List Value) (w' : World), EncW (E.at b) w' l' ws' → Below E.B w w' → l'.length = l.length + 1 → Calls Tryz.prog 81 #[.pointer (some ⟨E.en, 0, none⟩), .slice (some g) n cap, .int .i64 0] w' (Wrote (E.at b) l' x w')) :
    Calls Tryz.prog 50 #[.pointer (some ⟨E.en, 0, none⟩), .iface 83 (.slice (some g) n cap), .int .i64 0] w fun e w' => ∃ b, Wrote (E.at b) l (ob E.le :: x) w e w' := by
  cases hle : E.le
  · exact e0_co_false E g n cap x l w hle h hfit0 hw
  · exact e0_co_true E g n cap x l w hle h hfit0 hw

theorem first_encode (E : Enr) : ∀ (f : Nat) (x : Value) (g : By.G) (K : Knows) (l : By.Bs) (w : World), IsG f K x g → Enc0 E w l → Lies E.B K w → By.Ok g → By.size g ≤ 2147483647 → l.length + (By.enc E.le g).length ≤ E.S.cap →
    Calls Tryz.prog 50 #[.pointer (some ⟨E.en, 0, none⟩), x, .int .i64 0] w fun e w' => ∃ b, Wrote (E.at b) l (By.enc E.le g) w e w'
  | 0 => fun x g K l w h _ _ _ _ _ => h.elim
  | f + 1 => fun x g K l w h he hL hok hs hfit => by
    cases g with
    | pt p =>
      obtain ⟨v, rfl, rfl⟩ := h
      have hf : l.length + 21 ≤ E.S.cap := by simpa only [By.enc, By.encP_length] using hfit
      cases hle : E.le
      · have key := e0_pt_false E p hok l w hle he hf
        rw [hle] at key
        exact key
      · have key := e0_pt_true E p hok l w hle he hf
        rw [hle] at key
        exact key
    | ln ps =>
      obtain ⟨v, rfl, hv⟩ := h
      obtain ⟨g, cap, rfl, hcap⟩ := RowIs.form hv
      simp only [By.enc, By.encL_length] at hfit
      exact e0_ln E ⟨g, 0, none⟩ ps.length cap (By.spell E.le 4 2 ++ By.encPts E.le ps) l w he (by omega) (fun b l' ws' w' he' hb' hl' => wl_any (E.at b) _ ps K l' ws' w' he' hv (hL.below hb') hok (size_ln hs) (by show _ ≤ E.S.cap; omega))
    | pg pss =>
      obtain ⟨v, rfl, hv⟩ := h
      obtain ⟨g, cap, rfl, hcap⟩ := RowIs.form hv
      simp only [By.enc, By.encG_length] at hfit
      have e := By.flat_rings E.le pss
      exact e0_pg E ⟨g, 0, none⟩ pss.length cap (By.spell E.le 4 3 ++ By.encRings E.le pss) l w he (by omega) (fun b l' ws' w' he' hb' hl' => wpg_any (E.at b) _ pss K l' ws' w' he' hv (hL.below hb') hok.2 (size_pg hs).1 (size_pg hs).2 (by show l'.length + 8 + (pss.flatMap (By.encPts E.le)).length ≤ E.S.cap; omega))
    | mp gs =>
      obtain ⟨v, rfl, hv⟩ := h
      obtain ⟨g, cap, rfl, hcap⟩ := RowIs.form hv
      have hsz := size_mp hs
      simp only [By.Ok] at hok
      simp only [By.enc, List.length_append, By.hd_length, By.spell_length] at hfit
      have key := e0_mp E ⟨g, 0, none⟩ gs.length cap (By.spell E.le 4 4 ++ (By.spell E.le 4 gs.length ++ gs.flatMap (By.encP E.le))) l w he (by omega) (fun b l' ws' w' he' hb' hl' => wmp_any (E.at b) _ gs K _ l' ws' w' he' hv (hL.below hb') (fun a ha y l2 ws2 w2 hy he2 hL2 hf2 => by rw [hy]; exact en_pt (E.at b) a l2 ws2 w2 he2 (hok.2 a ha) hf2) hsz (by show _ ≤ E.S.cap; omega))
      rw [ob_app] at key
      skip
      exact key
    | ml gs =>
      obtain ⟨v, rfl, hv⟩ := h
      obtain ⟨g, cap, rfl, hcap⟩ := RowIs.form hv
      have hsz := size_ml hs
      simp only [By.Ok] at hok
      simp only [By.enc, List.length_append, By.hd_length, By.spell_length] at hfit
      have key := e0_ml E ⟨g, 0, none⟩ gs.length cap (By.spell E.le 4 5 ++ (By.spell E.le 4 gs.length ++ gs.flatMap (By.encL E.le))) l w he (by omega) (fun b l' ws' w' he' hb' hl' => wml_any (E.at b) _ gs K _ l' ws' w' he' hv (hL.below hb') (fun a ha y l2 ws2 w2 hy he2 hL2 hf2 => by obtain ⟨z, rfl, hz⟩ := hy; exact en_ln (E.at b) z a K l2 ws2 w2 he2 hz hL2 (hok.2 a ha) (hsz.2 a ha) hf2) hsz.1 (by show _ ≤ E.S.cap; omega))
      rw [ob_app] at key
      skip
      exact key
    | mg gs =>
      obtain ⟨v, rfl, hv⟩ := h
      obtain ⟨g, cap, rfl, hcap⟩ := RowIs.form hv
      have hsz := size_mg hs
      simp only [By.Ok] at hok
      simp only [By.enc, List.length_append, By.hd_length, By.spell_length] at hfit
      have key := e0_mg E ⟨g, 0, none⟩ gs.length cap (By.spell E.le 4 6 ++ (By.spell E.le 4 gs.length ++ gs.flatMap (By.encG E.le))) l w he (by omega) (fun b l' ws' w' he' hb' hl' => wmg_any (E.at b) _ gs K _ l' ws' w' he' hv (hL.below hb') (fun a ha y l2 ws2 w2 hy he2 hL2 hf2 => by obtain ⟨z, rfl, hz⟩ := hy; exact en_pg (E.at b) z a K l2 ws2 w2 he2 hz hL2 (hok.2 a ha).2 (hsz.2 a ha).1 (hsz.2 a ha).2 hf2) hsz.1 (by show _ ≤ E.S.cap; omega))
      rw [ob_app] at key
      skip
      exact key
    | co gs =>
      obtain ⟨v, rfl, hv⟩ := h
      obtain ⟨g, cap, rfl, hcap⟩ := RowIs.form hv
      have hsz := size_co hs
      simp only [By.Ok] at hok
      simp only [By.enc, List.length_append, By.hd_length, By.spell_length, encs_flat] at hfit
      have key := e0_co E ⟨g, 0, none⟩ gs.length cap (By.spell E.le 4 7 ++ (By.spell E.le 4 gs.length ++ gs.flatMap (By.enc E.le))) l w he (by omega) (fun b l' ws' w' he' hb' hl' => wco_any (E.at b) _ gs K _ l' ws' w' he' hv (hL.below hb') (fun a ha y l2 ws2 w2 hy he2 hL2 hf2 => encodes_any (E.at b) f y a K l2 ws2 w2 hy he2 hL2 (oks_mem hok.2 a ha) (hsz.2 a ha) hf2) hsz.1 (by show _ ≤ E.S.cap; omega))
      rw [ob_app] at key
      rw [← encs_flat] at key
      exact key
end Go.Proofs.YtjbjjphgnilhmaaGreatDoor
