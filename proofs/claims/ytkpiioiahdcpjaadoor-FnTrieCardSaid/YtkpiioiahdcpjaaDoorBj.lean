/- stable_func: all of it sorted by blocks. -/
import Derived.Test.YtkpiioiahdcpjaaDoorBi
namespace Go.Proofs.YtkpiioiahdcpjaaDoor
open Go.RowKit

/-- Sorted within each block of s. -/
def Blks {α : Type} (lt : α → α → Bool) (f : Nat → α) (s lo hi : Nat) : Prop := ∀ x y, lo ≤ x → x < y → y < hi → x / s = y / s → lt (f y) (f x) = false

theorem blks_ins {α : Type} {lt : α → α → Bool} {f1 f2 : Nat → α} {a b : Nat} (h : Blks lt f1 20 0 a) (ha : a % 20 = 0) (hp : Pm a b f1 f2) (hs : Srtd lt f2 a b) : Blks lt f2 20 0 b := by
  intro x y h1 h2 h3 h4
  by_cases hy : y < a
  · rw [hp.1 x (by omega), hp.1 y (by omega)]; exact h x y h1 h2 hy h4
  · exact hs x y (by omega) h2 h3
theorem blks_part {α : Type} {lt : α → α → Bool} {f : Nat → α} {s a b lo n : Nat} (hs : s = 20 ∨ s = 40 ∨ s = 80) (h : Blks lt f s lo n) (ha : a % s = 0) (hlo : lo ≤ a) (hb : b ≤ a + s) (hbn : b ≤ n) : Srtd lt f a b := by
  intro x y h1 h2 h3
  refine h x y (by omega) h2 (by omega) ?_
  rcases hs with rfl | rfl | rfl <;> omega
theorem blks_merge {α : Type} {lt : α → α → Bool} {f1 f2 : Nat → α} {s a b n : Nat} (hs : s = 20 ∨ s = 40 ∨ s = 80) (h : Blks lt f1 (2 * s) 0 a) (h2 : Blks lt f1 s a n) (ha : a % (2 * s) = 0) (hab : a ≤ b) (hp : Pm a b f1 f2) (hsr : Srtd lt f2 a b) : Blks lt f2 (2 * s) 0 b ∧ Blks lt f2 s b n := by
  constructor
  · intro x y h1 h2 h3 h4
    by_cases hy : y < a
    · rw [hp.1 x (by omega), hp.1 y (by omega)]; exact h x y h1 h2 hy h4
    · refine hsr x y ?_ h2 h3
      rcases hs with rfl | rfl | rfl <;> omega
  · intro x y h1 h3 h4 h5
    rw [hp.1 x (by omega), hp.1 y (by omega)]; exact h2 x y (by omega) h3 h4 h5
theorem blks_up {α : Type} {lt : α → α → Bool} {f : Nat → α} {s a n : Nat} (hs : s = 20 ∨ s = 40 ∨ s = 80) (h : Blks lt f (2 * s) 0 a) (h2 : Blks lt f s a n) (ha : a % (2 * s) = 0) (hn : n ≤ a + s) : Blks lt f (2 * s) 0 n := by
  intro x y h1 h3 h4 h5
  by_cases hy : y < a
  · exact h x y h1 h3 hy h5
  · refine h2 x y ?_ h3 h4 ?_
    · rcases hs with rfl | rfl | rfl <;> omega
    · rcases hs with rfl | rfl | rfl <;> omega
theorem mod_next {s a : Nat} (ha : a % (2 * s) = 0) : (a + 2 * s) % (2 * s) = 0 := by
  rw [Nat.add_mod_right]; exact ha
theorem mod_half {s a : Nat} (hs : s = 20 ∨ s = 40 ∨ s = 80) (ha : a % (2 * s) = 0) : a % s = 0 ∧ (a + s) % s = 0 := by
  rcases hs with rfl | rfl | rfl <;> omega

set_option maxHeartbeats 3200000 in
set_option maxRecDepth 100000 in
theorem stable_any {n : Nat} {α : Type} {lt : α → α → Bool} {g : Nat} {lb : Array Value} {sf : Nat} {sb : Array Value} {Row : World → (Nat → α) → Prop} {S : Nat → Prop} (C : Srt n lt g lb sf sb Row S) (O : OrdOk lt) (eg : ∀ args w, (callFunc g args).run Tryd.prog w = .ok (.enter g args) w)
    (w : World) (f : Nat → α) (hr : Row w f) (hn60 : n ≤ 60) :
    Calls Tryd.prog 28 #[.agg #[.func (.func g) #[] lb, .func (.func sf) #[] sb], .int .i64 n] w (MergePost lt Row S w f 0 n) := by
  have HC := Lib.hid C
  have HO := Lib.hid O
  have HR := Lib.hid hr
  have HS : Hid (∀ x, S x → x ≠ w.heap.size) := fun x hx => by have := C.old w f hr x hx; omega
  clear C hr O
  go_enter Tryd.func28, Tryd.ntmps28
  go_wp2_with fail
  go_loopg [5, 6] (n + 20) (fun kq v5 v6 wr => ∃ a b : Nat, v5 = .int .i64 a ∧ v6 = .int .i64 b ∧ a ≤ n ∧ b ≤ a + 20 ∧ a + 20 ≤ b ∧ Hid (kq = n + 20 - a ∧ a % 20 = 0 ∧ (∃ f', Row wr f' ∧ Pm 0 n f f' ∧ Blks lt f' 20 0 a) ∧ Mod S w wr ∧ Blk wr w.heap.size 77 #[.func (.func g) #[] lb, .func (.func sf) #[] sb]))
  case atStart =>
    have hm := (Mod.refl Nowhere w).alloc (.cells #[.func (.func g) #[] lb, .func (.func sf) #[] sb] 77)
    exact ⟨0, 20, rfl, rfl, Nat.zero_le _, by omega, by omega, rfl, rfl, ⟨f, HC.out.keep _ _ _ HR.out hm, Pm.refl _ _ _, fun x y h1 h2 h3 => by omega⟩, hm.any _, Blk.new w 77 _⟩
  case round =>
    obtain ⟨a, b, rfl, rfl, han, hb1, hb2, H⟩ := hrel
    obtain ⟨hkq, hmod, ⟨f1, hrow, hpm, hso⟩, hm, hblk⟩ := H.out
    have HKQ := Lib.hid hkq
    have HMOD := Lib.hid hmod
    have HROW := Lib.hid hrow
    have HPM := Lib.hid hpm
    have HSO := Lib.hid hso
    have HM := Lib.hid hm
    have HB := Lib.hid hblk
    have x0 := hblk.cell 0
    have x1 := hblk.cell 1
    simp only [List.getElem?_toArray, List.getElem?_cons_zero, List.getElem?_cons_succ] at x0 x1
    clear H hkq hmod hrow hpm hso hm hblk
    by_cases hbn : b ≤ n
    · have t1 : decide ((b : Int) ≤ (n : Int)) = true := decide_eq_true (by omega)
      go_wp2_with fail
      refine (insertion_any HC.out HO.out eg wr f1 a b HROW.out (by omega) hbn).mono ?_
      rintro en w1 ⟨rfl, f2, hrow2, hpm2, hs2, hm2⟩
      have HROW2 := Lib.hid hrow2
      have HPM2 := Lib.hid hpm2
      have HS2 := Lib.hid hs2
      have HM2 := Lib.hid hm2
      clear hrow2 hpm2 hs2 hm2
      go_wp2_with fail
      go_roundg (n + 20 - b)
      case measure => have := HKQ.out; omega
      case rel =>
        refine ⟨b, b + 20, rfl, by go_num, hbn, by omega, by omega, rfl, ?_, ⟨f2, HROW2.out, HPM.out.trans (HPM2.out.wide (by omega) (by omega) hbn), blks_ins HSO.out HMOD.out HPM2.out HS2.out⟩, HM.out.trans HM2.out fun _ _ h => h, HB.out.keep HM2.out (fun h => HS.out _ h rfl)⟩
        have := HMOD.out
        omega
    · have t1 : decide ((b : Int) ≤ (n : Int)) = false := decide_eq_false (by omega)
      go_wp2_with fail
      refine (insertion_any HC.out HO.out eg wr f1 a n HROW.out (by omega) (by omega)).mono ?_
      rintro en w1 ⟨rfl, f2, hrow2, hpm2, hs2, hm2⟩
      have HROW2 := Lib.hid hrow2
      have HPM2 := Lib.hid (HPM.out.trans (hpm2.wide (Nat.zero_le _) han (Nat.le_refl _)))
      have HS2 := Lib.hid (blks_ins HSO.out HMOD.out hpm2 hs2)
      have HM2 := Lib.hid (HM.out.trans hm2 fun _ _ h => h)
      have HB2 := Lib.hid (HB.out.keep hm2 (fun h => HS.out _ h rfl))
      clear hrow2 hpm2 hs2 hm2 HROW HPM HSO HM HB HMOD HKQ x0 x1 t1
      go_wp2_with fail
      clear hb1 hb2 hbn
      go_loopg [4] 180 (fun kq v4 wr => ∃ s : Nat, v4 = .int .i64 s ∧ s ≤ 80 ∧ Hid (kq = 200 - s ∧ (s = 20 ∨ s = 40 ∨ s = 80) ∧ (∃ f', Row wr f' ∧ Pm 0 n f f' ∧ Blks lt f' s 0 n) ∧ Mod S w wr ∧ Blk wr w.heap.size 77 #[.func (.func g) #[] lb, .func (.func sf) #[] sb]))
      case atStart => exact ⟨20, rfl, by omega, rfl, .inl rfl, ⟨f2, HROW2.out, HPM2.out, HS2.out⟩, HM2.out, HB2.out⟩
      case round =>
        clear HROW2 HPM2 HS2 HM2 HB2 f1 f2
        obtain ⟨s, rfl, hs80, H⟩ := hrel
        obtain ⟨hkq, hs, ⟨f1, hrow, hpm, hso⟩, hm, hblk⟩ := H.out
        have HKQ := Lib.hid hkq
        have HSS := Lib.hid hs
        have hs20 : 20 ≤ s := by omega
        have HROW := Lib.hid hrow
        have HPM := Lib.hid hpm
        have HSO := Lib.hid hso
        have HM := Lib.hid hm
        have HB := Lib.hid hblk
        clear H hkq hrow hpm hso hm hblk hs
        by_cases hsn : s < n
        · go_wp2_with fail
          obtain ⟨gk0, hgk0⟩ : ∃ x, x = gk := ⟨_, rfl⟩
          subst hgk0
          go_loopg [5, 6] (n + 400) (fun kq v5 v6 wr => ∃ a b : Nat, v5 = .int .i64 a ∧ v6 = .int .i64 b ∧ a ≤ n ∧ b ≤ a + 2 * s ∧ a + 2 * s ≤ b ∧ Hid (kq = n + 400 - a ∧ a % (2 * s) = 0 ∧ (∃ f', Row wr f' ∧ Pm 0 n f f' ∧ Blks lt f' (2 * s) 0 a ∧ Blks lt f' s a n) ∧ Mod S w wr ∧ Blk wr w.heap.size 77 #[.func (.func g) #[] lb, .func (.func sf) #[] sb]))
          case atStart =>
            exact ⟨0, 2 * s, rfl, by go_num, Nat.zero_le _, by omega, by omega, rfl, Nat.zero_mod _, ⟨f1, HROW.out, HPM.out, fun x y h1 h2 h3 => by omega, HSO.out⟩, HM.out, HB.out⟩
          case round =>
            clear HROW HPM HSO HM HB f1
            obtain ⟨a, b, rfl, rfl, han, hb1, hb2, H⟩ := hrel
            obtain ⟨hkq, hmod, ⟨f1, hrow, hpm, hso, hse⟩, hm, hblk⟩ := H.out
            have HKQ2 := Lib.hid hkq
            have HMOD := Lib.hid hmod
            have HROW := Lib.hid hrow
            have HPM := Lib.hid hpm
            have HSO := Lib.hid hso
            have HSE := Lib.hid hse
            have HM := Lib.hid hm
            have HB := Lib.hid hblk
            have x0 := hblk.cell 0
            have x1 := hblk.cell 1
            simp only [List.getElem?_toArray, List.getElem?_cons_zero, List.getElem?_cons_succ] at x0 x1
            clear H hkq hmod hrow hpm hso hse hm hblk
            have MH := Lib.hid (mod_half HSS.out HMOD.out)
            by_cases hbn : b ≤ n
            · have t1 : decide ((b : Int) ≤ (n : Int)) = true := decide_eq_true (by omega)
              go_wp2_with fail
              have hcall := merge_any HC.out HO.out eg n wr f1 a (a + s) b (by omega) HROW.out (by omega) (by omega) hbn (blks_part HSS.out HSE.out MH.out.1 (Nat.le_refl _) (Nat.le_refl _) (by omega)) (blks_part HSS.out HSE.out MH.out.2 (by omega) (by omega) hbn)
              rw [Int.natCast_add] at hcall
              refine hcall.mono ?_
              clear hcall
              rintro en w1 ⟨rfl, f2, hrow2, hpm2, hs2, hm2⟩
              have HROW2 := Lib.hid hrow2
              have HPM2 := Lib.hid hpm2
              have HS2 := Lib.hid hs2
              have HM2 := Lib.hid hm2
              clear hrow2 hpm2 hs2 hm2
              go_wp2_with fail
              go_roundg (n + 400 - b)
              case measure => have := HKQ2.out; omega
              case rel =>
                have hx := blks_merge (n := n) HSS.out HSO.out HSE.out HMOD.out (by omega) HPM2.out HS2.out
                refine ⟨b, b + 2 * s, rfl, by go_num, hbn, by omega, by omega, rfl, ?_, ⟨f2, HROW2.out, HPM.out.trans (HPM2.out.wide (by omega) (by omega) hbn), hx.1, hx.2⟩, HM.out.trans HM2.out fun _ _ h => h, HB.out.keep HM2.out (fun h => HS.out _ h rfl)⟩
                rw [show b = a + 2 * s by omega]
                exact mod_next HMOD.out
            · have t1 : decide ((b : Int) ≤ (n : Int)) = false := decide_eq_false (by omega)
              have hsn40 : s ≤ 40 := by have := HSS.out; omega
              by_cases hmn : a + s < n
              · have t2 : decide ((a : Int) + (s : Int) < (n : Int)) = true := decide_eq_true (by omega)
                go_wp2_with fail
                have hcall := merge_any HC.out HO.out eg n wr f1 a (a + s) n (by omega) HROW.out (by omega) hmn (Nat.le_refl _) (blks_part HSS.out HSE.out MH.out.1 (Nat.le_refl _) (Nat.le_refl _) (by omega)) (blks_part HSS.out HSE.out MH.out.2 (by omega) (by omega) (Nat.le_refl _))
                rw [Int.natCast_add] at hcall
                refine hcall.mono ?_
                clear hcall
                rintro en w1 ⟨rfl, f2, hrow2, hpm2, hs2, hm2⟩
                have HROW2 := Lib.hid hrow2
                have HPM2 := Lib.hid hpm2
                have HS2 := Lib.hid hs2
                have HM2 := Lib.hid hm2
                clear hrow2 hpm2 hs2 hm2
                go_wp2_with fail
                go_roundg (200 - 2 * s)
                case measure => have := HKQ.out; omega
                case rel =>
                  have hx := blks_merge (n := n) HSS.out HSO.out HSE.out HMOD.out (by omega) HPM2.out HS2.out
                  have hss := HSS.out
                  exact ⟨2 * s, by go_num, by omega, rfl, by omega, ⟨f2, HROW2.out, HPM.out.trans (HPM2.out.wide (by omega) (by omega) (Nat.le_refl _)), hx.1⟩, HM.out.trans HM2.out fun _ _ h => h, HB.out.keep HM2.out (fun h => HS.out _ h rfl)⟩
              · have t2 : decide ((a : Int) + (s : Int) < (n : Int)) = false := decide_eq_false (by omega)
                go_wp2_with fail
                go_roundg (200 - 2 * s)
                case measure => have := HKQ.out; omega
                case rel =>
                  have hx := blks_up (n := n) HSS.out HSO.out HSE.out HMOD.out (by omega)
                  have hss := HSS.out
                  exact ⟨2 * s, by go_num, by omega, rfl, by omega, ⟨f1, HROW.out, HPM.out, hx⟩, HM.out, HB.out⟩
        · have hend : decide (s < n) = false := by simp; omega
          go_wp2_with fail
          go_end0
          refine ⟨rfl, f1, HROW.out, HPM.out, ?_, HM.out⟩
          exact blks_part HSS.out HSO.out (Nat.zero_mod _) (Nat.le_refl _) (by omega) (Nat.le_refl _)
end Go.Proofs.YtkpiioiahdcpjaaDoor
