/- symMerge, the walk of the general case. -/
import Derived.Test.YtkpiioiahdcpjaaDoorBg
namespace Go.Proofs.YtkpiioiahdcpjaaDoor
open Go.RowKit

theorem srtd_congr {α : Type} {lt : α → α → Bool} {f f' : Nat → α} {a b : Nat} (h : Srtd lt f a b) (e : ∀ x, a ≤ x → x < b → f' x = f x) : Srtd lt f' a b := by
  intro x y h1 h2 h3
  rw [e x h1 (by omega), e y (by omega) h3]
  exact h x y h1 h2 h3
theorem srtd_from {α : Type} {lt : α → α → Bool} {f : Nat → α} {a b j : Nat} (h : Srtd lt f j b) (e : j = a) : Srtd lt f a b := e ▸ h
theorem srtd_to {α : Type} {lt : α → α → Bool} {f : Nat → α} {a b j : Nat} (h : Srtd lt f a j) (e : j = b) : Srtd lt f a b := e ▸ h
theorem rot_same {α : Type} (f : Nat → α) {j m e : Nat} (h : m ≤ j ∨ e ≤ m) : rotf f j m e = f := by
  funext k
  unfold rotf
  repeat' split
  all_goals first | (exfalso; omega) | (congr 1; omega) | rfl

set_option maxHeartbeats 25600000 in
set_option maxRecDepth 100000 in
theorem merge_main {n : Nat} {α : Type} {lt : α → α → Bool} {g : Nat} {lb : Array Value} {sf : Nat} {sb : Array Value} {Row : World → (Nat → α) → Prop} {S : Nat → Prop} (C : Srt n lt g lb sf sb Row S) (O : OrdOk lt) (eg : ∀ args w, (callFunc g args).run Tryd.prog w = .ok (.enter g args) w) (N : Nat)
    (ih : ∀ (w : World) (f : Nat → α) (a m b : Nat), b - a < N → Row w f → a < m → m < b → b ≤ n → Srtd lt f a m → Srtd lt f m b → Calls Tryd.prog 46 #[.agg #[.func (.func g) #[] lb, .func (.func sf) #[] sb], .int .i64 a, .int .i64 m, .int .i64 b] w (MergePost lt Row S w f a b))
    (w : World) (f : Nat → α) (a m b : Nat) (hN : b - a ≤ N) (hr : Row w f) (ham : a + 1 < m) (hmb : m + 1 < b) (hbn : b ≤ n) (h1 : Srtd lt f a m) (h2 : Srtd lt f m b) :
    Calls Tryd.prog 46 #[.agg #[.func (.func g) #[] lb, .func (.func sf) #[] sb], .int .i64 a, .int .i64 m, .int .i64 b] w (MergePost lt Row S w f a b) := by
  have HC := Lib.hid C
  have HO := Lib.hid O
  have HR := Lib.hid hr
  have H1 := Lib.hid h1
  have H2 := Lib.hid h2
  have IH := Lib.hid ih
  have hn := C.small
  have hS : Hid (∀ x, S x → x ≠ w.heap.size) := fun x hx => by have := C.old w f hr x hx; omega
  clear C hr O h1 h2 ih
  have t0 : ((m : Int) - (a : Int) == 1) = false := by rw [beq_eq_false_iff_ne]; omega
  have t1 : ((b : Int) - (m : Int) == 1) = false := by rw [beq_eq_false_iff_ne]; omega
  obtain ⟨mid, hmid⟩ : ∃ x, x = (a + b) / 2 := ⟨_, rfl⟩
  have hmd : (((a : Int) + (b : Int)) / 2) = (mid : Int) := by omega
  have hmid1 : 2 * mid ≤ a + b := by omega
  have hmid2 : a + b ≤ 2 * mid + 1 := by omega
  clear hmid
  by_cases hside : m > mid
  · have ts : decide ((m : Int) > (mid : Int)) = true := by rw [decide_eq_true_iff]; omega
    obtain ⟨lo0, hlo0⟩ : ∃ x, x = mid + m - b := ⟨_, rfl⟩
    have dlo : ((mid : Int) + (m : Int) - (b : Int)) = (lo0 : Int) := by omega
    have F : Hid (a ≤ lo0 ∧ lo0 ≤ mid ∧ mid ≤ m ∧ mid + m ≤ lo0 + b ∧ (lo0 = a ∨ lo0 + b = mid + m) ∧ (mid = m ∨ mid = mid)) := by refine ⟨?_, ?_, ?_, ?_, ?_, .inr rfl⟩ <;> omega
    obtain ⟨hi0, hhi0⟩ : ∃ x, x = mid := ⟨_, rfl⟩
    have F2 : Hid (a ≤ lo0 ∧ lo0 ≤ hi0 ∧ hi0 ≤ m ∧ hi0 ≤ mid ∧ mid + m ≤ lo0 + b ∧ (lo0 = a ∨ lo0 + b = mid + m) ∧ (hi0 = m ∨ hi0 = mid)) := by subst hhi0; exact ⟨F.out.1, F.out.2.1, F.out.2.2.1, Nat.le_refl _, F.out.2.2.2.1, F.out.2.2.2.2.1, .inr rfl⟩
    have HLO := Lib.hid hlo0
    have HHI := Lib.hid hhi0
    clear F hlo0 hhi0
    go_enter Tryd.func46, Tryd.ntmps46
    go_wp2_with fail
    go_loopg [18, 19] (hi0 - lo0) (fun kq v18 v19 wr => ∃ i j : Nat, v18 = .int .i64 i ∧ v19 = .int .i64 j ∧ i ≤ j ∧ j ≤ m ∧ Hid (kq = j - i ∧ lo0 ≤ i ∧ j ≤ hi0 ∧ (i = lo0 ∨ lt (f (mid + m - i)) (f (i - 1)) = false) ∧ (j = hi0 ∨ lt (f (mid + m - 1 - j)) (f j) = true) ∧ Row wr f ∧ Mod Nowhere w wr ∧ Blk wr w.heap.size 77 #[.func (.func g) #[] lb, .func (.func sf) #[] sb]))
    case atStart =>
      have hm := (Mod.refl Nowhere w).alloc (.cells #[.func (.func g) #[] lb, .func (.func sf) #[] sb] 77)
      obtain ⟨f1, f2, f3, f4, f5, f6, f7⟩ := F2.out
      have k1 := HLO.out
      have k2 := HHI.out
      exact ⟨lo0, hi0, by first | rfl | go_num, by rw [k2], by omega, by omega, rfl, Nat.le_refl _, Nat.le_refl _, .inl rfl, .inl rfl, HC.out.keep _ _ _ HR.out hm, hm, Blk.new w 77 _⟩
    case round =>
      obtain ⟨i, j, rfl, rfl, hij, hjm, H⟩ := hrel
      obtain ⟨hkq, hlo, hhi, hi, hj, hrow, hm, hblk⟩ := H.out
      have HKQ := Lib.hid hkq
      have HI := Lib.hid hi
      have HJ := Lib.hid hj
      have HROW := Lib.hid hrow
      have HM := Lib.hid hm
      have HB := Lib.hid hblk
      have x0 := hblk.cell 0
      have x1 := hblk.cell 1
      simp only [List.getElem?_toArray, List.getElem?_cons_zero, List.getElem?_cons_succ] at x0 x1
      clear H hkq hi hj hrow hm hblk
      obtain ⟨f1, f2, f3, f4, f5, f6, f7⟩ := F2.out
      by_cases hlt : i < j
      · have d1 : (((i : Int) + (j : Int)) / 2) = (((i + j) / 2 : Nat) : Int) := by omega
        have d2 : ((mid : Int) + (m : Int) - 1 - (((i + j) / 2 : Nat) : Int)) = ((mid + m - 1 - (i + j) / 2 : Nat) : Int) := by omega
        have hl := HC.out.less wr f (mid + m - 1 - (i + j) / 2) ((i + j) / 2) HROW.out (by omega) (by omega)
        have hh1 : (i + j) / 2 < j := by omega
        have hh2 : i ≤ (i + j) / 2 := by omega
        generalize hh : (i + j) / 2 = h at *
        clear f6 f7
        cases hlv : lt (f (mid + m - 1 - h)) (f h) with
        | false =>
          rw [hlv] at hl
          go_wp2_with (go_at_fn g; refine hl.mono ?_; rintro e w2 ⟨rfl, hm2⟩; have HM2 := Lib.hid hm2; clear hm2)
          go_roundg (j - (h + 1))
          case measure => have := HKQ.out; omega
          case rel => exact ⟨h + 1, j, by go_num, rfl, by omega, hjm, rfl, by omega, hhi, .inr (by rw [show mid + m - (h + 1) = mid + m - 1 - h by omega]; exact hlv), HJ.out, HC.out.keep _ _ _ HROW.out HM2.out, HM.out.then HM2.out, HB.out.keep HM2.out (fun h => h)⟩
        | true =>
          rw [hlv] at hl
          go_wp2_with (go_at_fn g; refine hl.mono ?_; rintro e w2 ⟨rfl, hm2⟩; have HM2 := Lib.hid hm2; clear hm2)
          go_roundg (h - i)
          case measure => have := HKQ.out; omega
          case rel => exact ⟨i, h, rfl, rfl, hh2, by omega, rfl, hlo, by omega, HI.out, .inr hlv, HC.out.keep _ _ _ HROW.out HM2.out, HM.out.then HM2.out, HB.out.keep HM2.out (fun h => h)⟩
      · have hend : decide (i < j) = false := by simp; omega
        have hje : j = i := by omega
        subst hje
        obtain ⟨e, he⟩ : ∃ x, x = mid + m - j := ⟨_, rfl⟩
        have de : ((mid : Int) + (m : Int) - (j : Int)) = (e : Int) := by omega
        have hme : m ≤ e := by omega
        have heb : e ≤ b := by omega
        have hse : j + (e - m) = mid := by omega
        have hparts := merge_parts HO.out H1.out H2.out (by omega : a ≤ j) hjm hme heb hse (by
          rcases HI.out with h | h
          · rcases f6 with h6 | h6
            · exact .inl (by omega)
            · exact .inr (.inl (by omega))
          · exact .inr (.inr (by rw [he]; exact h))) (by
          rcases HJ.out with h | h
          · rcases f7 with h7 | h7
            · exact .inl (by omega)
            · exact .inr (.inl (by omega))
          · exact .inr (.inr (by rw [he, show mid + m - j - 1 = mid + m - 1 - j by omega]; exact h)))
        have HPARTS := Lib.hid hparts
        have haj : a ≤ j := by omega
        have hjmid : j ≤ mid := by omega
        have hmide : mid ≤ e := by omega
        clear hparts he f1 f2 f3 f4 f5 f6 f7 hlo hhi
        have HROT : Hid (Pm a b f (rotf f j m e)) := (Pm.rot f hjm hme).wide haj (by omega) heb
        by_cases p1 : j < m
        · have p1' : ((j : Int) < (m : Int)) := by omega
          by_cases p2 : m < e
          · have p2' : ((m : Int) < (e : Int)) := by omega
            go_wp2_with fail
            refine (rotate_any HC.out wr f j m e HROW.out p1 p2 (by omega)).mono ?_
            rintro en w7 ⟨rfl, r7, m7⟩
            have HR7 := Lib.hid r7
            have HM7 : Hid (Mod S w w7) := (HM.out.any _).trans m7 fun _ _ h => h
            have HB7 := Lib.hid (HB.out.keep m7 (fun h => hS.out _ h rfl))
            clear r7 m7 x0 x1
            have x0 := HB7.out.cell 0
            have x1 := HB7.out.cell 1
            simp only [List.getElem?_toArray, List.getElem?_cons_zero, List.getElem?_cons_succ] at x0 x1
            by_cases p3 : a < j
            · have p3' : ((a : Int) < (j : Int)) := by omega
              by_cases p4 : j < mid
              · have p4' : ((j : Int) < (mid : Int)) := by omega
                go_wp2_with fail
                refine (IH.out w7 _ a j mid (by omega) HR7.out p3 p4 (by omega) HPARTS.out.1 HPARTS.out.2.1).mono ?_
                rintro en w8 ⟨rfl, f8, r8, q8, s8, m8⟩
                have HR8 := Lib.hid r8
                have HP2 := Lib.hid q8
                have HS2 := Lib.hid s8
                have HM8 := Lib.hid (HM7.out.trans m8 fun _ _ h => h)
                have HB8 := Lib.hid (HB7.out.keep m8 (fun h => hS.out _ h rfl))
                clear r8 q8 s8 m8 x0 x1
                have x0 := HB8.out.cell 0
                have x1 := HB8.out.cell 1
                simp only [List.getElem?_toArray, List.getElem?_cons_zero, List.getElem?_cons_succ] at x0 x1
                by_cases p5 : mid < e
                · have p5' : ((mid : Int) < (e : Int)) := by omega
                  by_cases p6 : e < b
                  · have p6' : ((e : Int) < (b : Int)) := by omega
                    go_wp2_with fail
                    refine (IH.out w8 _ mid e b (by omega) HR8.out p5 p6 hbn (srtd_congr HPARTS.out.2.2.1 (fun x h _ => HP2.out.1 x (by omega))) (srtd_congr HPARTS.out.2.2.2.1 (fun x h _ => HP2.out.1 x (by omega)))).mono ?_
                    rintro en w9 ⟨rfl, f9, r9, q9, s9, m9⟩
                    have HR9 := Lib.hid r9
                    have HQ9 := Lib.hid q9
                    have HS9 := Lib.hid s9
                    have HM9 := Lib.hid (HM8.out.trans m9 fun _ _ h => h)
                    clear r9 q9 s9 m9
                    go_wp2_with fail
                    go_end0
                    exact ⟨rfl, f9, HR9.out, ((HROT.out.trans (HP2.out.wide (Nat.le_refl _) (by omega) (by omega))).trans (HQ9.out.wide (by omega) (by omega) (Nat.le_refl _))), merge_join (by omega) (by omega) HPARTS.out.2.2.2.2 HP2.out HS2.out HQ9.out HS9.out, HM9.out⟩
                  · have p6' : decide (e < b) = false := by simp; omega
                    go_wp2_with fail
                    go_end0
                    exact ⟨rfl, _, HR8.out, HROT.out.trans (HP2.out.wide (Nat.le_refl _) (by omega) (by omega)), merge_join (by omega) (by omega) HPARTS.out.2.2.2.2 HP2.out HS2.out (Pm.refl _ _ _) (srtd_congr (srtd_to HPARTS.out.2.2.1 (by omega)) (fun x h _ => HP2.out.1 x (by omega))), HM8.out⟩
                · have p5' : decide (mid < e) = false := by simp; omega
                  go_wp2_with fail
                  go_end0
                  exact ⟨rfl, _, HR8.out, HROT.out.trans (HP2.out.wide (Nat.le_refl _) (by omega) (by omega)), merge_join (by omega) (by omega) HPARTS.out.2.2.2.2 HP2.out HS2.out (Pm.refl _ _ _) (srtd_congr (srtd_from HPARTS.out.2.2.2.1 (by omega)) (fun x h _ => HP2.out.1 x (by omega))), HM8.out⟩
              · have p4' : decide (j < mid) = false := by simp; omega
                have HP2 : Hid (Pm a mid (rotf f j m e) (rotf f j m e)) := Pm.refl _ _ _
                have HS2 : Hid (Srtd lt (rotf f j m e) a mid) := srtd_to HPARTS.out.1 (by omega)
                by_cases p5 : mid < e
                · have p5' : ((mid : Int) < (e : Int)) := by omega
                  by_cases p6 : e < b
                  · have p6' : ((e : Int) < (b : Int)) := by omega
                    go_wp2_with fail
                    refine (IH.out w7 _ mid e b (by omega) HR7.out p5 p6 hbn (srtd_congr HPARTS.out.2.2.1 (fun x h _ => HP2.out.1 x (by omega))) (srtd_congr HPARTS.out.2.2.2.1 (fun x h _ => HP2.out.1 x (by omega)))).mono ?_
                    rintro en w9 ⟨rfl, f9, r9, q9, s9, m9⟩
                    have HR9 := Lib.hid r9
                    have HQ9 := Lib.hid q9
                    have HS9 := Lib.hid s9
                    have HM9 := Lib.hid (HM7.out.trans m9 fun _ _ h => h)
                    clear r9 q9 s9 m9
                    go_wp2_with fail
                    go_end0
                    exact ⟨rfl, f9, HR9.out, ((HROT.out.trans (HP2.out.wide (Nat.le_refl _) (by omega) (by omega))).trans (HQ9.out.wide (by omega) (by omega) (Nat.le_refl _))), merge_join (by omega) (by omega) HPARTS.out.2.2.2.2 HP2.out HS2.out HQ9.out HS9.out, HM9.out⟩
                  · have p6' : decide (e < b) = false := by simp; omega
                    go_wp2_with fail
                    go_end0
                    exact ⟨rfl, _, HR7.out, HROT.out.trans (HP2.out.wide (Nat.le_refl _) (by omega) (by omega)), merge_join (by omega) (by omega) HPARTS.out.2.2.2.2 HP2.out HS2.out (Pm.refl _ _ _) (srtd_congr (srtd_to HPARTS.out.2.2.1 (by omega)) (fun x h _ => HP2.out.1 x (by omega))), HM7.out⟩
                · have p5' : decide (mid < e) = false := by simp; omega
                  go_wp2_with fail
                  go_end0
                  exact ⟨rfl, _, HR7.out, HROT.out.trans (HP2.out.wide (Nat.le_refl _) (by omega) (by omega)), merge_join (by omega) (by omega) HPARTS.out.2.2.2.2 HP2.out HS2.out (Pm.refl _ _ _) (srtd_congr (srtd_from HPARTS.out.2.2.2.1 (by omega)) (fun x h _ => HP2.out.1 x (by omega))), HM7.out⟩
            · have p3' : decide (a < j) = false := by simp; omega
              have HP2 : Hid (Pm a mid (rotf f j m e) (rotf f j m e)) := Pm.refl _ _ _
              have HS2 : Hid (Srtd lt (rotf f j m e) a mid) := srtd_from HPARTS.out.2.1 (by omega)
              by_cases p5 : mid < e
              · have p5' : ((mid : Int) < (e : Int)) := by omega
                by_cases p6 : e < b
                · have p6' : ((e : Int) < (b : Int)) := by omega
                  go_wp2_with fail
                  refine (IH.out w7 _ mid e b (by omega) HR7.out p5 p6 hbn (srtd_congr HPARTS.out.2.2.1 (fun x h _ => HP2.out.1 x (by omega))) (srtd_congr HPARTS.out.2.2.2.1 (fun x h _ => HP2.out.1 x (by omega)))).mono ?_
                  rintro en w9 ⟨rfl, f9, r9, q9, s9, m9⟩
                  have HR9 := Lib.hid r9
                  have HQ9 := Lib.hid q9
                  have HS9 := Lib.hid s9
                  have HM9 := Lib.hid (HM7.out.trans m9 fun _ _ h => h)
                  clear r9 q9 s9 m9
                  go_wp2_with fail
                  go_end0
                  exact ⟨rfl, f9, HR9.out, ((HROT.out.trans (HP2.out.wide (Nat.le_refl _) (by omega) (by omega))).trans (HQ9.out.wide (by omega) (by omega) (Nat.le_refl _))), merge_join (by omega) (by omega) HPARTS.out.2.2.2.2 HP2.out HS2.out HQ9.out HS9.out, HM9.out⟩
                · have p6' : decide (e < b) = false := by simp; omega
                  go_wp2_with fail
                  go_end0
                  exact ⟨rfl, _, HR7.out, HROT.out.trans (HP2.out.wide (Nat.le_refl _) (by omega) (by omega)), merge_join (by omega) (by omega) HPARTS.out.2.2.2.2 HP2.out HS2.out (Pm.refl _ _ _) (srtd_congr (srtd_to HPARTS.out.2.2.1 (by omega)) (fun x h _ => HP2.out.1 x (by omega))), HM7.out⟩
              · have p5' : decide (mid < e) = false := by simp; omega
                go_wp2_with fail
                go_end0
                exact ⟨rfl, _, HR7.out, HROT.out.trans (HP2.out.wide (Nat.le_refl _) (by omega) (by omega)), merge_join (by omega) (by omega) HPARTS.out.2.2.2.2 HP2.out HS2.out (Pm.refl _ _ _) (srtd_congr (srtd_from HPARTS.out.2.2.2.1 (by omega)) (fun x h _ => HP2.out.1 x (by omega))), HM7.out⟩
          · have p2' : decide (m < e) = false := by simp; omega
            have HR7 : Hid (Row wr (rotf f j m e)) := by rw [rot_same f (.inr (by omega))]; exact HROW.out
            have HM7 : Hid (Mod S w wr) := HM.out.any _
            by_cases p3 : a < j
            · have p3' : ((a : Int) < (j : Int)) := by omega
              by_cases p4 : j < mid
              · have p4' : ((j : Int) < (mid : Int)) := by omega
                go_wp2_with fail
                refine (IH.out wr _ a j mid (by omega) HR7.out p3 p4 (by omega) HPARTS.out.1 HPARTS.out.2.1).mono ?_
                rintro en w8 ⟨rfl, f8, r8, q8, s8, m8⟩
                have HR8 := Lib.hid r8
                have HP2 := Lib.hid q8
                have HS2 := Lib.hid s8
                have HM8 := Lib.hid (HM7.out.trans m8 fun _ _ h => h)
                have HB8 := Lib.hid (HB.out.keep m8 (fun h => hS.out _ h rfl))
                clear r8 q8 s8 m8 x0 x1
                have x0 := HB8.out.cell 0
                have x1 := HB8.out.cell 1
                simp only [List.getElem?_toArray, List.getElem?_cons_zero, List.getElem?_cons_succ] at x0 x1
                by_cases p5 : mid < e
                · have p5' : ((mid : Int) < (e : Int)) := by omega
                  by_cases p6 : e < b
                  · have p6' : ((e : Int) < (b : Int)) := by omega
                    go_wp2_with fail
                    refine (IH.out w8 _ mid e b (by omega) HR8.out p5 p6 hbn (srtd_congr HPARTS.out.2.2.1 (fun x h _ => HP2.out.1 x (by omega))) (srtd_congr HPARTS.out.2.2.2.1 (fun x h _ => HP2.out.1 x (by omega)))).mono ?_
                    rintro en w9 ⟨rfl, f9, r9, q9, s9, m9⟩
                    have HR9 := Lib.hid r9
                    have HQ9 := Lib.hid q9
                    have HS9 := Lib.hid s9
                    have HM9 := Lib.hid (HM8.out.trans m9 fun _ _ h => h)
                    clear r9 q9 s9 m9
                    go_wp2_with fail
                    go_end0
                    exact ⟨rfl, f9, HR9.out, ((HROT.out.trans (HP2.out.wide (Nat.le_refl _) (by omega) (by omega))).trans (HQ9.out.wide (by omega) (by omega) (Nat.le_refl _))), merge_join (by omega) (by omega) HPARTS.out.2.2.2.2 HP2.out HS2.out HQ9.out HS9.out, HM9.out⟩
                  · have p6' : decide (e < b) = false := by simp; omega
                    go_wp2_with fail
                    go_end0
                    exact ⟨rfl, _, HR8.out, HROT.out.trans (HP2.out.wide (Nat.le_refl _) (by omega) (by omega)), merge_join (by omega) (by omega) HPARTS.out.2.2.2.2 HP2.out HS2.out (Pm.refl _ _ _) (srtd_congr (srtd_to HPARTS.out.2.2.1 (by omega)) (fun x h _ => HP2.out.1 x (by omega))), HM8.out⟩
                · have p5' : decide (mid < e) = false := by simp; omega
                  go_wp2_with fail
                  go_end0
                  exact ⟨rfl, _, HR8.out, HROT.out.trans (HP2.out.wide (Nat.le_refl _) (by omega) (by omega)), merge_join (by omega) (by omega) HPARTS.out.2.2.2.2 HP2.out HS2.out (Pm.refl _ _ _) (srtd_congr (srtd_from HPARTS.out.2.2.2.1 (by omega)) (fun x h _ => HP2.out.1 x (by omega))), HM8.out⟩
              · have p4' : decide (j < mid) = false := by simp; omega
                have HP2 : Hid (Pm a mid (rotf f j m e) (rotf f j m e)) := Pm.refl _ _ _
                have HS2 : Hid (Srtd lt (rotf f j m e) a mid) := srtd_to HPARTS.out.1 (by omega)
                by_cases p5 : mid < e
                · have p5' : ((mid : Int) < (e : Int)) := by omega
                  by_cases p6 : e < b
                  · have p6' : ((e : Int) < (b : Int)) := by omega
                    go_wp2_with fail
                    refine (IH.out wr _ mid e b (by omega) HR7.out p5 p6 hbn (srtd_congr HPARTS.out.2.2.1 (fun x h _ => HP2.out.1 x (by omega))) (srtd_congr HPARTS.out.2.2.2.1 (fun x h _ => HP2.out.1 x (by omega)))).mono ?_
                    rintro en w9 ⟨rfl, f9, r9, q9, s9, m9⟩
                    have HR9 := Lib.hid r9
                    have HQ9 := Lib.hid q9
                    have HS9 := Lib.hid s9
                    have HM9 := Lib.hid (HM7.out.trans m9 fun _ _ h => h)
                    clear r9 q9 s9 m9
                    go_wp2_with fail
                    go_end0
                    exact ⟨rfl, f9, HR9.out, ((HROT.out.trans (HP2.out.wide (Nat.le_refl _) (by omega) (by omega))).trans (HQ9.out.wide (by omega) (by omega) (Nat.le_refl _))), merge_join (by omega) (by omega) HPARTS.out.2.2.2.2 HP2.out HS2.out HQ9.out HS9.out, HM9.out⟩
                  · have p6' : decide (e < b) = false := by simp; omega
                    go_wp2_with fail
                    go_end0
                    exact ⟨rfl, _, HR7.out, HROT.out.trans (HP2.out.wide (Nat.le_refl _) (by omega) (by omega)), merge_join (by omega) (by omega) HPARTS.out.2.2.2.2 HP2.out HS2.out (Pm.refl _ _ _) (srtd_congr (srtd_to HPARTS.out.2.2.1 (by omega)) (fun x h _ => HP2.out.1 x (by omega))), HM7.out⟩
                · have p5' : decide (mid < e) = false := by simp; omega
                  go_wp2_with fail
                  go_end0
                  exact ⟨rfl, _, HR7.out, HROT.out.trans (HP2.out.wide (Nat.le_refl _) (by omega) (by omega)), merge_join (by omega) (by omega) HPARTS.out.2.2.2.2 HP2.out HS2.out (Pm.refl _ _ _) (srtd_congr (srtd_from HPARTS.out.2.2.2.1 (by omega)) (fun x h _ => HP2.out.1 x (by omega))), HM7.out⟩
            · have p3' : decide (a < j) = false := by simp; omega
              have HP2 : Hid (Pm a mid (rotf f j m e) (rotf f j m e)) := Pm.refl _ _ _
              have HS2 : Hid (Srtd lt (rotf f j m e) a mid) := srtd_from HPARTS.out.2.1 (by omega)
              by_cases p5 : mid < e
              · have p5' : ((mid : Int) < (e : Int)) := by omega
                by_cases p6 : e < b
                · have p6' : ((e : Int) < (b : Int)) := by omega
                  go_wp2_with fail
                  refine (IH.out wr _ mid e b (by omega) HR7.out p5 p6 hbn (srtd_congr HPARTS.out.2.2.1 (fun x h _ => HP2.out.1 x (by omega))) (srtd_congr HPARTS.out.2.2.2.1 (fun x h _ => HP2.out.1 x (by omega)))).mono ?_
                  rintro en w9 ⟨rfl, f9, r9, q9, s9, m9⟩
                  have HR9 := Lib.hid r9
                  have HQ9 := Lib.hid q9
                  have HS9 := Lib.hid s9
                  have HM9 := Lib.hid (HM7.out.trans m9 fun _ _ h => h)
                  clear r9 q9 s9 m9
                  go_wp2_with fail
                  go_end0
                  exact ⟨rfl, f9, HR9.out, ((HROT.out.trans (HP2.out.wide (Nat.le_refl _) (by omega) (by omega))).trans (HQ9.out.wide (by omega) (by omega) (Nat.le_refl _))), merge_join (by omega) (by omega) HPARTS.out.2.2.2.2 HP2.out HS2.out HQ9.out HS9.out, HM9.out⟩
                · have p6' : decide (e < b) = false := by simp; omega
                  go_wp2_with fail
                  go_end0
                  exact ⟨rfl, _, HR7.out, HROT.out.trans (HP2.out.wide (Nat.le_refl _) (by omega) (by omega)), merge_join (by omega) (by omega) HPARTS.out.2.2.2.2 HP2.out HS2.out (Pm.refl _ _ _) (srtd_congr (srtd_to HPARTS.out.2.2.1 (by omega)) (fun x h _ => HP2.out.1 x (by omega))), HM7.out⟩
              · have p5' : decide (mid < e) = false := by simp; omega
                go_wp2_with fail
                go_end0
                exact ⟨rfl, _, HR7.out, HROT.out.trans (HP2.out.wide (Nat.le_refl _) (by omega) (by omega)), merge_join (by omega) (by omega) HPARTS.out.2.2.2.2 HP2.out HS2.out (Pm.refl _ _ _) (srtd_congr (srtd_from HPARTS.out.2.2.2.1 (by omega)) (fun x h _ => HP2.out.1 x (by omega))), HM7.out⟩
        · have p1' : decide (j < m) = false := by simp; omega
          have HR7 : Hid (Row wr (rotf f j m e)) := by rw [rot_same f (.inl (by omega))]; exact HROW.out
          have HM7 : Hid (Mod S w wr) := HM.out.any _
          by_cases p3 : a < j
          · have p3' : ((a : Int) < (j : Int)) := by omega
            by_cases p4 : j < mid
            · have p4' : ((j : Int) < (mid : Int)) := by omega
              go_wp2_with fail
              refine (IH.out wr _ a j mid (by omega) HR7.out p3 p4 (by omega) HPARTS.out.1 HPARTS.out.2.1).mono ?_
              rintro en w8 ⟨rfl, f8, r8, q8, s8, m8⟩
              have HR8 := Lib.hid r8
              have HP2 := Lib.hid q8
              have HS2 := Lib.hid s8
              have HM8 := Lib.hid (HM7.out.trans m8 fun _ _ h => h)
              have HB8 := Lib.hid (HB.out.keep m8 (fun h => hS.out _ h rfl))
              clear r8 q8 s8 m8 x0 x1
              have x0 := HB8.out.cell 0
              have x1 := HB8.out.cell 1
              simp only [List.getElem?_toArray, List.getElem?_cons_zero, List.getElem?_cons_succ] at x0 x1
              by_cases p5 : mid < e
              · have p5' : ((mid : Int) < (e : Int)) := by omega
                by_cases p6 : e < b
                · have p6' : ((e : Int) < (b : Int)) := by omega
                  go_wp2_with fail
                  refine (IH.out w8 _ mid e b (by omega) HR8.out p5 p6 hbn (srtd_congr HPARTS.out.2.2.1 (fun x h _ => HP2.out.1 x (by omega))) (srtd_congr HPARTS.out.2.2.2.1 (fun x h _ => HP2.out.1 x (by omega)))).mono ?_
                  rintro en w9 ⟨rfl, f9, r9, q9, s9, m9⟩
                  have HR9 := Lib.hid r9
                  have HQ9 := Lib.hid q9
                  have HS9 := Lib.hid s9
                  have HM9 := Lib.hid (HM8.out.trans m9 fun _ _ h => h)
                  clear r9 q9 s9 m9
                  go_wp2_with fail
                  go_end0
                  exact ⟨rfl, f9, HR9.out, ((HROT.out.trans (HP2.out.wide (Nat.le_refl _) (by omega) (by omega))).trans (HQ9.out.wide (by omega) (by omega) (Nat.le_refl _))), merge_join (by omega) (by omega) HPARTS.out.2.2.2.2 HP2.out HS2.out HQ9.out HS9.out, HM9.out⟩
                · have p6' : decide (e < b) = false := by simp; omega
                  go_wp2_with fail
                  go_end0
                  exact ⟨rfl, _, HR8.out, HROT.out.trans (HP2.out.wide (Nat.le_refl _) (by omega) (by omega)), merge_join (by omega) (by omega) HPARTS.out.2.2.2.2 HP2.out HS2.out (Pm.refl _ _ _) (srtd_congr (srtd_to HPARTS.out.2.2.1 (by omega)) (fun x h _ => HP2.out.1 x (by omega))), HM8.out⟩
              · have p5' : decide (mid < e) = false := by simp; omega
                go_wp2_with fail
                go_end0
                exact ⟨rfl, _, HR8.out, HROT.out.trans (HP2.out.wide (Nat.le_refl _) (by omega) (by omega)), merge_join (by omega) (by omega) HPARTS.out.2.2.2.2 HP2.out HS2.out (Pm.refl _ _ _) (srtd_congr (srtd_from HPARTS.out.2.2.2.1 (by omega)) (fun x h _ => HP2.out.1 x (by omega))), HM8.out⟩
            · have p4' : decide (j < mid) = false := by simp; omega
              have HP2 : Hid (Pm a mid (rotf f j m e) (rotf f j m e)) := Pm.refl _ _ _
              have HS2 : Hid (Srtd lt (rotf f j m e) a mid) := srtd_to HPARTS.out.1 (by omega)
              by_cases p5 : mid < e
              · have p5' : ((mid : Int) < (e : Int)) := by omega
                by_cases p6 : e < b
                · have p6' : ((e : Int) < (b : Int)) := by omega
                  go_wp2_with fail
                  refine (IH.out wr _ mid e b (by omega) HR7.out p5 p6 hbn (srtd_congr HPARTS.out.2.2.1 (fun x h _ => HP2.out.1 x (by omega))) (srtd_congr HPARTS.out.2.2.2.1 (fun x h _ => HP2.out.1 x (by omega)))).mono ?_
                  rintro en w9 ⟨rfl, f9, r9, q9, s9, m9⟩
                  have HR9 := Lib.hid r9
                  have HQ9 := Lib.hid q9
                  have HS9 := Lib.hid s9
                  have HM9 := Lib.hid (HM7.out.trans m9 fun _ _ h => h)
                  clear r9 q9 s9 m9
                  go_wp2_with fail
                  go_end0
                  exact ⟨rfl, f9, HR9.out, ((HROT.out.trans (HP2.out.wide (Nat.le_refl _) (by omega) (by omega))).trans (HQ9.out.wide (by omega) (by omega) (Nat.le_refl _))), merge_join (by omega) (by omega) HPARTS.out.2.2.2.2 HP2.out HS2.out HQ9.out HS9.out, HM9.out⟩
                · have p6' : decide (e < b) = false := by simp; omega
                  go_wp2_with fail
                  go_end0
                  exact ⟨rfl, _, HR7.out, HROT.out.trans (HP2.out.wide (Nat.le_refl _) (by omega) (by omega)), merge_join (by omega) (by omega) HPARTS.out.2.2.2.2 HP2.out HS2.out (Pm.refl _ _ _) (srtd_congr (srtd_to HPARTS.out.2.2.1 (by omega)) (fun x h _ => HP2.out.1 x (by omega))), HM7.out⟩
              · have p5' : decide (mid < e) = false := by simp; omega
                go_wp2_with fail
                go_end0
                exact ⟨rfl, _, HR7.out, HROT.out.trans (HP2.out.wide (Nat.le_refl _) (by omega) (by omega)), merge_join (by omega) (by omega) HPARTS.out.2.2.2.2 HP2.out HS2.out (Pm.refl _ _ _) (srtd_congr (srtd_from HPARTS.out.2.2.2.1 (by omega)) (fun x h _ => HP2.out.1 x (by omega))), HM7.out⟩
          · have p3' : decide (a < j) = false := by simp; omega
            have HP2 : Hid (Pm a mid (rotf f j m e) (rotf f j m e)) := Pm.refl _ _ _
            have HS2 : Hid (Srtd lt (rotf f j m e) a mid) := srtd_from HPARTS.out.2.1 (by omega)
            by_cases p5 : mid < e
            · have p5' : ((mid : Int) < (e : Int)) := by omega
              by_cases p6 : e < b
              · have p6' : ((e : Int) < (b : Int)) := by omega
                go_wp2_with fail
                refine (IH.out wr _ mid e b (by omega) HR7.out p5 p6 hbn (srtd_congr HPARTS.out.2.2.1 (fun x h _ => HP2.out.1 x (by omega))) (srtd_congr HPARTS.out.2.2.2.1 (fun x h _ => HP2.out.1 x (by omega)))).mono ?_
                rintro en w9 ⟨rfl, f9, r9, q9, s9, m9⟩
                have HR9 := Lib.hid r9
                have HQ9 := Lib.hid q9
                have HS9 := Lib.hid s9
                have HM9 := Lib.hid (HM7.out.trans m9 fun _ _ h => h)
                clear r9 q9 s9 m9
                go_wp2_with fail
                go_end0
                exact ⟨rfl, f9, HR9.out, ((HROT.out.trans (HP2.out.wide (Nat.le_refl _) (by omega) (by omega))).trans (HQ9.out.wide (by omega) (by omega) (Nat.le_refl _))), merge_join (by omega) (by omega) HPARTS.out.2.2.2.2 HP2.out HS2.out HQ9.out HS9.out, HM9.out⟩
              · have p6' : decide (e < b) = false := by simp; omega
                go_wp2_with fail
                go_end0
                exact ⟨rfl, _, HR7.out, HROT.out.trans (HP2.out.wide (Nat.le_refl _) (by omega) (by omega)), merge_join (by omega) (by omega) HPARTS.out.2.2.2.2 HP2.out HS2.out (Pm.refl _ _ _) (srtd_congr (srtd_to HPARTS.out.2.2.1 (by omega)) (fun x h _ => HP2.out.1 x (by omega))), HM7.out⟩
            · have p5' : decide (mid < e) = false := by simp; omega
              go_wp2_with fail
              go_end0
              exact ⟨rfl, _, HR7.out, HROT.out.trans (HP2.out.wide (Nat.le_refl _) (by omega) (by omega)), merge_join (by omega) (by omega) HPARTS.out.2.2.2.2 HP2.out HS2.out (Pm.refl _ _ _) (srtd_congr (srtd_from HPARTS.out.2.2.2.1 (by omega)) (fun x h _ => HP2.out.1 x (by omega))), HM7.out⟩
  · have ts : decide ((m : Int) > (mid : Int)) = false := by rw [decide_eq_false_iff_not]; omega
    obtain ⟨lo0, hlo0⟩ : ∃ x, x = a := ⟨_, rfl⟩
    obtain ⟨hi0, hhi0⟩ : ∃ x, x = m := ⟨_, rfl⟩
    have F2 : Hid (a ≤ lo0 ∧ lo0 ≤ hi0 ∧ hi0 ≤ m ∧ hi0 ≤ mid ∧ mid + m ≤ lo0 + b ∧ (lo0 = a ∨ lo0 + b = mid + m) ∧ (hi0 = m ∨ hi0 = mid)) := by refine ⟨?_, ?_, ?_, ?_, ?_, .inl hlo0, .inl hhi0⟩ <;> omega
    have HLO := Lib.hid hlo0
    have HHI := Lib.hid hhi0
    clear hlo0 hhi0
    go_enter Tryd.func46, Tryd.ntmps46
    go_wp2_with fail
    go_loopg [18, 19] (hi0 - lo0) (fun kq v18 v19 wr => ∃ i j : Nat, v18 = .int .i64 i ∧ v19 = .int .i64 j ∧ i ≤ j ∧ j ≤ m ∧ Hid (kq = j - i ∧ lo0 ≤ i ∧ j ≤ hi0 ∧ (i = lo0 ∨ lt (f (mid + m - i)) (f (i - 1)) = false) ∧ (j = hi0 ∨ lt (f (mid + m - 1 - j)) (f j) = true) ∧ Row wr f ∧ Mod Nowhere w wr ∧ Blk wr w.heap.size 77 #[.func (.func g) #[] lb, .func (.func sf) #[] sb]))
    case atStart =>
      have hm := (Mod.refl Nowhere w).alloc (.cells #[.func (.func g) #[] lb, .func (.func sf) #[] sb] 77)
      obtain ⟨f1, f2, f3, f4, f5, f6, f7⟩ := F2.out
      have k1 := HLO.out
      have k2 := HHI.out
      exact ⟨lo0, hi0, by rw [k1], by rw [k2], by omega, by omega, rfl, Nat.le_refl _, Nat.le_refl _, .inl rfl, .inl rfl, HC.out.keep _ _ _ HR.out hm, hm, Blk.new w 77 _⟩
    case round =>
      obtain ⟨i, j, rfl, rfl, hij, hjm, H⟩ := hrel
      obtain ⟨hkq, hlo, hhi, hi, hj, hrow, hm, hblk⟩ := H.out
      have HKQ := Lib.hid hkq
      have HI := Lib.hid hi
      have HJ := Lib.hid hj
      have HROW := Lib.hid hrow
      have HM := Lib.hid hm
      have HB := Lib.hid hblk
      have x0 := hblk.cell 0
      have x1 := hblk.cell 1
      simp only [List.getElem?_toArray, List.getElem?_cons_zero, List.getElem?_cons_succ] at x0 x1
      clear H hkq hi hj hrow hm hblk
      obtain ⟨f1, f2, f3, f4, f5, f6, f7⟩ := F2.out
      by_cases hlt : i < j
      · have d1 : (((i : Int) + (j : Int)) / 2) = (((i + j) / 2 : Nat) : Int) := by omega
        have d2 : ((mid : Int) + (m : Int) - 1 - (((i + j) / 2 : Nat) : Int)) = ((mid + m - 1 - (i + j) / 2 : Nat) : Int) := by omega
        have hl := HC.out.less wr f (mid + m - 1 - (i + j) / 2) ((i + j) / 2) HROW.out (by omega) (by omega)
        have hh1 : (i + j) / 2 < j := by omega
        have hh2 : i ≤ (i + j) / 2 := by omega
        generalize hh : (i + j) / 2 = h at *
        clear f6 f7
        cases hlv : lt (f (mid + m - 1 - h)) (f h) with
        | false =>
          rw [hlv] at hl
          go_wp2_with (go_at_fn g; refine hl.mono ?_; rintro e w2 ⟨rfl, hm2⟩; have HM2 := Lib.hid hm2; clear hm2)
          go_roundg (j - (h + 1))
          case measure => have := HKQ.out; omega
          case rel => exact ⟨h + 1, j, by go_num, rfl, by omega, hjm, rfl, by omega, hhi, .inr (by rw [show mid + m - (h + 1) = mid + m - 1 - h by omega]; exact hlv), HJ.out, HC.out.keep _ _ _ HROW.out HM2.out, HM.out.then HM2.out, HB.out.keep HM2.out (fun h => h)⟩
        | true =>
          rw [hlv] at hl
          go_wp2_with (go_at_fn g; refine hl.mono ?_; rintro e w2 ⟨rfl, hm2⟩; have HM2 := Lib.hid hm2; clear hm2)
          go_roundg (h - i)
          case measure => have := HKQ.out; omega
          case rel => exact ⟨i, h, rfl, rfl, hh2, by omega, rfl, hlo, by omega, HI.out, .inr hlv, HC.out.keep _ _ _ HROW.out HM2.out, HM.out.then HM2.out, HB.out.keep HM2.out (fun h => h)⟩
      · have hend : decide (i < j) = false := by simp; omega
        have hje : j = i := by omega
        subst hje
        obtain ⟨e, he⟩ : ∃ x, x = mid + m - j := ⟨_, rfl⟩
        have de : ((mid : Int) + (m : Int) - (j : Int)) = (e : Int) := by omega
        have hme : m ≤ e := by omega
        have heb : e ≤ b := by omega
        have hse : j + (e - m) = mid := by omega
        have hparts := merge_parts HO.out H1.out H2.out (by omega : a ≤ j) hjm hme heb hse (by
          rcases HI.out with h | h
          · rcases f6 with h6 | h6
            · exact .inl (by omega)
            · exact .inr (.inl (by omega))
          · exact .inr (.inr (by rw [he]; exact h))) (by
          rcases HJ.out with h | h
          · rcases f7 with h7 | h7
            · exact .inl (by omega)
            · exact .inr (.inl (by omega))
          · exact .inr (.inr (by rw [he, show mid + m - j - 1 = mid + m - 1 - j by omega]; exact h)))
        have HPARTS := Lib.hid hparts
        have haj : a ≤ j := by omega
        have hjmid : j ≤ mid := by omega
        have hmide : mid ≤ e := by omega
        clear hparts he f1 f2 f3 f4 f5 f6 f7 hlo hhi
        have HROT : Hid (Pm a b f (rotf f j m e)) := (Pm.rot f hjm hme).wide haj (by omega) heb
        by_cases p1 : j < m
        · have p1' : ((j : Int) < (m : Int)) := by omega
          by_cases p2 : m < e
          · have p2' : ((m : Int) < (e : Int)) := by omega
            go_wp2_with fail
            refine (rotate_any HC.out wr f j m e HROW.out p1 p2 (by omega)).mono ?_
            rintro en w7 ⟨rfl, r7, m7⟩
            have HR7 := Lib.hid r7
            have HM7 : Hid (Mod S w w7) := (HM.out.any _).trans m7 fun _ _ h => h
            have HB7 := Lib.hid (HB.out.keep m7 (fun h => hS.out _ h rfl))
            clear r7 m7 x0 x1
            have x0 := HB7.out.cell 0
            have x1 := HB7.out.cell 1
            simp only [List.getElem?_toArray, List.getElem?_cons_zero, List.getElem?_cons_succ] at x0 x1
            by_cases p3 : a < j
            · have p3' : ((a : Int) < (j : Int)) := by omega
              by_cases p4 : j < mid
              · have p4' : ((j : Int) < (mid : Int)) := by omega
                go_wp2_with fail
                refine (IH.out w7 _ a j mid (by omega) HR7.out p3 p4 (by omega) HPARTS.out.1 HPARTS.out.2.1).mono ?_
                rintro en w8 ⟨rfl, f8, r8, q8, s8, m8⟩
                have HR8 := Lib.hid r8
                have HP2 := Lib.hid q8
                have HS2 := Lib.hid s8
                have HM8 := Lib.hid (HM7.out.trans m8 fun _ _ h => h)
                have HB8 := Lib.hid (HB7.out.keep m8 (fun h => hS.out _ h rfl))
                clear r8 q8 s8 m8 x0 x1
                have x0 := HB8.out.cell 0
                have x1 := HB8.out.cell 1
                simp only [List.getElem?_toArray, List.getElem?_cons_zero, List.getElem?_cons_succ] at x0 x1
                by_cases p5 : mid < e
                · have p5' : ((mid : Int) < (e : Int)) := by omega
                  by_cases p6 : e < b
                  · have p6' : ((e : Int) < (b : Int)) := by omega
                    go_wp2_with fail
                    refine (IH.out w8 _ mid e b (by omega) HR8.out p5 p6 hbn (srtd_congr HPARTS.out.2.2.1 (fun x h _ => HP2.out.1 x (by omega))) (srtd_congr HPARTS.out.2.2.2.1 (fun x h _ => HP2.out.1 x (by omega)))).mono ?_
                    rintro en w9 ⟨rfl, f9, r9, q9, s9, m9⟩
                    have HR9 := Lib.hid r9
                    have HQ9 := Lib.hid q9
                    have HS9 := Lib.hid s9
                    have HM9 := Lib.hid (HM8.out.trans m9 fun _ _ h => h)
                    clear r9 q9 s9 m9
                    go_wp2_with fail
                    go_end0
                    exact ⟨rfl, f9, HR9.out, ((HROT.out.trans (HP2.out.wide (Nat.le_refl _) (by omega) (by omega))).trans (HQ9.out.wide (by omega) (by omega) (Nat.le_refl _))), merge_join (by omega) (by omega) HPARTS.out.2.2.2.2 HP2.out HS2.out HQ9.out HS9.out, HM9.out⟩
                  · have p6' : decide (e < b) = false := by simp; omega
                    go_wp2_with fail
                    go_end0
                    exact ⟨rfl, _, HR8.out, HROT.out.trans (HP2.out.wide (Nat.le_refl _) (by omega) (by omega)), merge_join (by omega) (by omega) HPARTS.out.2.2.2.2 HP2.out HS2.out (Pm.refl _ _ _) (srtd_congr (srtd_to HPARTS.out.2.2.1 (by omega)) (fun x h _ => HP2.out.1 x (by omega))), HM8.out⟩
                · have p5' : decide (mid < e) = false := by simp; omega
                  go_wp2_with fail
                  go_end0
                  exact ⟨rfl, _, HR8.out, HROT.out.trans (HP2.out.wide (Nat.le_refl _) (by omega) (by omega)), merge_join (by omega) (by omega) HPARTS.out.2.2.2.2 HP2.out HS2.out (Pm.refl _ _ _) (srtd_congr (srtd_from HPARTS.out.2.2.2.1 (by omega)) (fun x h _ => HP2.out.1 x (by omega))), HM8.out⟩
              · have p4' : decide (j < mid) = false := by simp; omega
                have HP2 : Hid (Pm a mid (rotf f j m e) (rotf f j m e)) := Pm.refl _ _ _
                have HS2 : Hid (Srtd lt (rotf f j m e) a mid) := srtd_to HPARTS.out.1 (by omega)
                by_cases p5 : mid < e
                · have p5' : ((mid : Int) < (e : Int)) := by omega
                  by_cases p6 : e < b
                  · have p6' : ((e : Int) < (b : Int)) := by omega
                    go_wp2_with fail
                    refine (IH.out w7 _ mid e b (by omega) HR7.out p5 p6 hbn (srtd_congr HPARTS.out.2.2.1 (fun x h _ => HP2.out.1 x (by omega))) (srtd_congr HPARTS.out.2.2.2.1 (fun x h _ => HP2.out.1 x (by omega)))).mono ?_
                    rintro en w9 ⟨rfl, f9, r9, q9, s9, m9⟩
                    have HR9 := Lib.hid r9
                    have HQ9 := Lib.hid q9
                    have HS9 := Lib.hid s9
                    have HM9 := Lib.hid (HM7.out.trans m9 fun _ _ h => h)
                    clear r9 q9 s9 m9
                    go_wp2_with fail
                    go_end0
                    exact ⟨rfl, f9, HR9.out, ((HROT.out.trans (HP2.out.wide (Nat.le_refl _) (by omega) (by omega))).trans (HQ9.out.wide (by omega) (by omega) (Nat.le_refl _))), merge_join (by omega) (by omega) HPARTS.out.2.2.2.2 HP2.out HS2.out HQ9.out HS9.out, HM9.out⟩
                  · have p6' : decide (e < b) = false := by simp; omega
                    go_wp2_with fail
                    go_end0
                    exact ⟨rfl, _, HR7.out, HROT.out.trans (HP2.out.wide (Nat.le_refl _) (by omega) (by omega)), merge_join (by omega) (by omega) HPARTS.out.2.2.2.2 HP2.out HS2.out (Pm.refl _ _ _) (srtd_congr (srtd_to HPARTS.out.2.2.1 (by omega)) (fun x h _ => HP2.out.1 x (by omega))), HM7.out⟩
                · have p5' : decide (mid < e) = false := by simp; omega
                  go_wp2_with fail
                  go_end0
                  exact ⟨rfl, _, HR7.out, HROT.out.trans (HP2.out.wide (Nat.le_refl _) (by omega) (by omega)), merge_join (by omega) (by omega) HPARTS.out.2.2.2.2 HP2.out HS2.out (Pm.refl _ _ _) (srtd_congr (srtd_from HPARTS.out.2.2.2.1 (by omega)) (fun x h _ => HP2.out.1 x (by omega))), HM7.out⟩
            · have p3' : decide (a < j) = false := by simp; omega
              have HP2 : Hid (Pm a mid (rotf f j m e) (rotf f j m e)) := Pm.refl _ _ _
              have HS2 : Hid (Srtd lt (rotf f j m e) a mid) := srtd_from HPARTS.out.2.1 (by omega)
              by_cases p5 : mid < e
              · have p5' : ((mid : Int) < (e : Int)) := by omega
                by_cases p6 : e < b
                · have p6' : ((e : Int) < (b : Int)) := by omega
                  go_wp2_with fail
                  refine (IH.out w7 _ mid e b (by omega) HR7.out p5 p6 hbn (srtd_congr HPARTS.out.2.2.1 (fun x h _ => HP2.out.1 x (by omega))) (srtd_congr HPARTS.out.2.2.2.1 (fun x h _ => HP2.out.1 x (by omega)))).mono ?_
                  rintro en w9 ⟨rfl, f9, r9, q9, s9, m9⟩
                  have HR9 := Lib.hid r9
                  have HQ9 := Lib.hid q9
                  have HS9 := Lib.hid s9
                  have HM9 := Lib.hid (HM7.out.trans m9 fun _ _ h => h)
                  clear r9 q9 s9 m9
                  go_wp2_with fail
                  go_end0
                  exact ⟨rfl, f9, HR9.out, ((HROT.out.trans (HP2.out.wide (Nat.le_refl _) (by omega) (by omega))).trans (HQ9.out.wide (by omega) (by omega) (Nat.le_refl _))), merge_join (by omega) (by omega) HPARTS.out.2.2.2.2 HP2.out HS2.out HQ9.out HS9.out, HM9.out⟩
                · have p6' : decide (e < b) = false := by simp; omega
                  go_wp2_with fail
                  go_end0
                  exact ⟨rfl, _, HR7.out, HROT.out.trans (HP2.out.wide (Nat.le_refl _) (by omega) (by omega)), merge_join (by omega) (by omega) HPARTS.out.2.2.2.2 HP2.out HS2.out (Pm.refl _ _ _) (srtd_congr (srtd_to HPARTS.out.2.2.1 (by omega)) (fun x h _ => HP2.out.1 x (by omega))), HM7.out⟩
              · have p5' : decide (mid < e) = false := by simp; omega
                go_wp2_with fail
                go_end0
                exact ⟨rfl, _, HR7.out, HROT.out.trans (HP2.out.wide (Nat.le_refl _) (by omega) (by omega)), merge_join (by omega) (by omega) HPARTS.out.2.2.2.2 HP2.out HS2.out (Pm.refl _ _ _) (srtd_congr (srtd_from HPARTS.out.2.2.2.1 (by omega)) (fun x h _ => HP2.out.1 x (by omega))), HM7.out⟩
          · have p2' : decide (m < e) = false := by simp; omega
            have HR7 : Hid (Row wr (rotf f j m e)) := by rw [rot_same f (.inr (by omega))]; exact HROW.out
            have HM7 : Hid (Mod S w wr) := HM.out.any _
            by_cases p3 : a < j
            · have p3' : ((a : Int) < (j : Int)) := by omega
              by_cases p4 : j < mid
              · have p4' : ((j : Int) < (mid : Int)) := by omega
                go_wp2_with fail
                refine (IH.out wr _ a j mid (by omega) HR7.out p3 p4 (by omega) HPARTS.out.1 HPARTS.out.2.1).mono ?_
                rintro en w8 ⟨rfl, f8, r8, q8, s8, m8⟩
                have HR8 := Lib.hid r8
                have HP2 := Lib.hid q8
                have HS2 := Lib.hid s8
                have HM8 := Lib.hid (HM7.out.trans m8 fun _ _ h => h)
                have HB8 := Lib.hid (HB.out.keep m8 (fun h => hS.out _ h rfl))
                clear r8 q8 s8 m8 x0 x1
                have x0 := HB8.out.cell 0
                have x1 := HB8.out.cell 1
                simp only [List.getElem?_toArray, List.getElem?_cons_zero, List.getElem?_cons_succ] at x0 x1
                by_cases p5 : mid < e
                · have p5' : ((mid : Int) < (e : Int)) := by omega
                  by_cases p6 : e < b
                  · have p6' : ((e : Int) < (b : Int)) := by omega
                    go_wp2_with fail
                    refine (IH.out w8 _ mid e b (by omega) HR8.out p5 p6 hbn (srtd_congr HPARTS.out.2.2.1 (fun x h _ => HP2.out.1 x (by omega))) (srtd_congr HPARTS.out.2.2.2.1 (fun x h _ => HP2.out.1 x (by omega)))).mono ?_
                    rintro en w9 ⟨rfl, f9, r9, q9, s9, m9⟩
                    have HR9 := Lib.hid r9
                    have HQ9 := Lib.hid q9
                    have HS9 := Lib.hid s9
                    have HM9 := Lib.hid (HM8.out.trans m9 fun _ _ h => h)
                    clear r9 q9 s9 m9
                    go_wp2_with fail
                    go_end0
                    exact ⟨rfl, f9, HR9.out, ((HROT.out.trans (HP2.out.wide (Nat.le_refl _) (by omega) (by omega))).trans (HQ9.out.wide (by omega) (by omega) (Nat.le_refl _))), merge_join (by omega) (by omega) HPARTS.out.2.2.2.2 HP2.out HS2.out HQ9.out HS9.out, HM9.out⟩
                  · have p6' : decide (e < b) = false := by simp; omega
                    go_wp2_with fail
                    go_end0
                    exact ⟨rfl, _, HR8.out, HROT.out.trans (HP2.out.wide (Nat.le_refl _) (by omega) (by omega)), merge_join (by omega) (by omega) HPARTS.out.2.2.2.2 HP2.out HS2.out (Pm.refl _ _ _) (srtd_congr (srtd_to HPARTS.out.2.2.1 (by omega)) (fun x h _ => HP2.out.1 x (by omega))), HM8.out⟩
                · have p5' : decide (mid < e) = false := by simp; omega
                  go_wp2_with fail
                  go_end0
                  exact ⟨rfl, _, HR8.out, HROT.out.trans (HP2.out.wide (Nat.le_refl _) (by omega) (by omega)), merge_join (by omega) (by omega) HPARTS.out.2.2.2.2 HP2.out HS2.out (Pm.refl _ _ _) (srtd_congr (srtd_from HPARTS.out.2.2.2.1 (by omega)) (fun x h _ => HP2.out.1 x (by omega))), HM8.out⟩
              · have p4' : decide (j < mid) = false := by simp; omega
                have HP2 : Hid (Pm a mid (rotf f j m e) (rotf f j m e)) := Pm.refl _ _ _
                have HS2 : Hid (Srtd lt (rotf f j m e) a mid) := srtd_to HPARTS.out.1 (by omega)
                by_cases p5 : mid < e
                · have p5' : ((mid : Int) < (e : Int)) := by omega
                  by_cases p6 : e < b
                  · have p6' : ((e : Int) < (b : Int)) := by omega
                    go_wp2_with fail
                    refine (IH.out wr _ mid e b (by omega) HR7.out p5 p6 hbn (srtd_congr HPARTS.out.2.2.1 (fun x h _ => HP2.out.1 x (by omega))) (srtd_congr HPARTS.out.2.2.2.1 (fun x h _ => HP2.out.1 x (by omega)))).mono ?_
                    rintro en w9 ⟨rfl, f9, r9, q9, s9, m9⟩
                    have HR9 := Lib.hid r9
                    have HQ9 := Lib.hid q9
                    have HS9 := Lib.hid s9
                    have HM9 := Lib.hid (HM7.out.trans m9 fun _ _ h => h)
                    clear r9 q9 s9 m9
                    go_wp2_with fail
                    go_end0
                    exact ⟨rfl, f9, HR9.out, ((HROT.out.trans (HP2.out.wide (Nat.le_refl _) (by omega) (by omega))).trans (HQ9.out.wide (by omega) (by omega) (Nat.le_refl _))), merge_join (by omega) (by omega) HPARTS.out.2.2.2.2 HP2.out HS2.out HQ9.out HS9.out, HM9.out⟩
                  · have p6' : decide (e < b) = false := by simp; omega
                    go_wp2_with fail
                    go_end0
                    exact ⟨rfl, _, HR7.out, HROT.out.trans (HP2.out.wide (Nat.le_refl _) (by omega) (by omega)), merge_join (by omega) (by omega) HPARTS.out.2.2.2.2 HP2.out HS2.out (Pm.refl _ _ _) (srtd_congr (srtd_to HPARTS.out.2.2.1 (by omega)) (fun x h _ => HP2.out.1 x (by omega))), HM7.out⟩
                · have p5' : decide (mid < e) = false := by simp; omega
                  go_wp2_with fail
                  go_end0
                  exact ⟨rfl, _, HR7.out, HROT.out.trans (HP2.out.wide (Nat.le_refl _) (by omega) (by omega)), merge_join (by omega) (by omega) HPARTS.out.2.2.2.2 HP2.out HS2.out (Pm.refl _ _ _) (srtd_congr (srtd_from HPARTS.out.2.2.2.1 (by omega)) (fun x h _ => HP2.out.1 x (by omega))), HM7.out⟩
            · have p3' : decide (a < j) = false := by simp; omega
              have HP2 : Hid (Pm a mid (rotf f j m e) (rotf f j m e)) := Pm.refl _ _ _
              have HS2 : Hid (Srtd lt (rotf f j m e) a mid) := srtd_from HPARTS.out.2.1 (by omega)
              by_cases p5 : mid < e
              · have p5' : ((mid : Int) < (e : Int)) := by omega
                by_cases p6 : e < b
                · have p6' : ((e : Int) < (b : Int)) := by omega
                  go_wp2_with fail
                  refine (IH.out wr _ mid e b (by omega) HR7.out p5 p6 hbn (srtd_congr HPARTS.out.2.2.1 (fun x h _ => HP2.out.1 x (by omega))) (srtd_congr HPARTS.out.2.2.2.1 (fun x h _ => HP2.out.1 x (by omega)))).mono ?_
                  rintro en w9 ⟨rfl, f9, r9, q9, s9, m9⟩
                  have HR9 := Lib.hid r9
                  have HQ9 := Lib.hid q9
                  have HS9 := Lib.hid s9
                  have HM9 := Lib.hid (HM7.out.trans m9 fun _ _ h => h)
                  clear r9 q9 s9 m9
                  go_wp2_with fail
                  go_end0
                  exact ⟨rfl, f9, HR9.out, ((HROT.out.trans (HP2.out.wide (Nat.le_refl _) (by omega) (by omega))).trans (HQ9.out.wide (by omega) (by omega) (Nat.le_refl _))), merge_join (by omega) (by omega) HPARTS.out.2.2.2.2 HP2.out HS2.out HQ9.out HS9.out, HM9.out⟩
                · have p6' : decide (e < b) = false := by simp; omega
                  go_wp2_with fail
                  go_end0
                  exact ⟨rfl, _, HR7.out, HROT.out.trans (HP2.out.wide (Nat.le_refl _) (by omega) (by omega)), merge_join (by omega) (by omega) HPARTS.out.2.2.2.2 HP2.out HS2.out (Pm.refl _ _ _) (srtd_congr (srtd_to HPARTS.out.2.2.1 (by omega)) (fun x h _ => HP2.out.1 x (by omega))), HM7.out⟩
              · have p5' : decide (mid < e) = false := by simp; omega
                go_wp2_with fail
                go_end0
                exact ⟨rfl, _, HR7.out, HROT.out.trans (HP2.out.wide (Nat.le_refl _) (by omega) (by omega)), merge_join (by omega) (by omega) HPARTS.out.2.2.2.2 HP2.out HS2.out (Pm.refl _ _ _) (srtd_congr (srtd_from HPARTS.out.2.2.2.1 (by omega)) (fun x h _ => HP2.out.1 x (by omega))), HM7.out⟩
        · have p1' : decide (j < m) = false := by simp; omega
          have HR7 : Hid (Row wr (rotf f j m e)) := by rw [rot_same f (.inl (by omega))]; exact HROW.out
          have HM7 : Hid (Mod S w wr) := HM.out.any _
          by_cases p3 : a < j
          · have p3' : ((a : Int) < (j : Int)) := by omega
            by_cases p4 : j < mid
            · have p4' : ((j : Int) < (mid : Int)) := by omega
              go_wp2_with fail
              refine (IH.out wr _ a j mid (by omega) HR7.out p3 p4 (by omega) HPARTS.out.1 HPARTS.out.2.1).mono ?_
              rintro en w8 ⟨rfl, f8, r8, q8, s8, m8⟩
              have HR8 := Lib.hid r8
              have HP2 := Lib.hid q8
              have HS2 := Lib.hid s8
              have HM8 := Lib.hid (HM7.out.trans m8 fun _ _ h => h)
              have HB8 := Lib.hid (HB.out.keep m8 (fun h => hS.out _ h rfl))
              clear r8 q8 s8 m8 x0 x1
              have x0 := HB8.out.cell 0
              have x1 := HB8.out.cell 1
              simp only [List.getElem?_toArray, List.getElem?_cons_zero, List.getElem?_cons_succ] at x0 x1
              by_cases p5 : mid < e
              · have p5' : ((mid : Int) < (e : Int)) := by omega
                by_cases p6 : e < b
                · have p6' : ((e : Int) < (b : Int)) := by omega
                  go_wp2_with fail
                  refine (IH.out w8 _ mid e b (by omega) HR8.out p5 p6 hbn (srtd_congr HPARTS.out.2.2.1 (fun x h _ => HP2.out.1 x (by omega))) (srtd_congr HPARTS.out.2.2.2.1 (fun x h _ => HP2.out.1 x (by omega)))).mono ?_
                  rintro en w9 ⟨rfl, f9, r9, q9, s9, m9⟩
                  have HR9 := Lib.hid r9
                  have HQ9 := Lib.hid q9
                  have HS9 := Lib.hid s9
                  have HM9 := Lib.hid (HM8.out.trans m9 fun _ _ h => h)
                  clear r9 q9 s9 m9
                  go_wp2_with fail
                  go_end0
                  exact ⟨rfl, f9, HR9.out, ((HROT.out.trans (HP2.out.wide (Nat.le_refl _) (by omega) (by omega))).trans (HQ9.out.wide (by omega) (by omega) (Nat.le_refl _))), merge_join (by omega) (by omega) HPARTS.out.2.2.2.2 HP2.out HS2.out HQ9.out HS9.out, HM9.out⟩
                · have p6' : decide (e < b) = false := by simp; omega
                  go_wp2_with fail
                  go_end0
                  exact ⟨rfl, _, HR8.out, HROT.out.trans (HP2.out.wide (Nat.le_refl _) (by omega) (by omega)), merge_join (by omega) (by omega) HPARTS.out.2.2.2.2 HP2.out HS2.out (Pm.refl _ _ _) (srtd_congr (srtd_to HPARTS.out.2.2.1 (by omega)) (fun x h _ => HP2.out.1 x (by omega))), HM8.out⟩
              · have p5' : decide (mid < e) = false := by simp; omega
                go_wp2_with fail
                go_end0
                exact ⟨rfl, _, HR8.out, HROT.out.trans (HP2.out.wide (Nat.le_refl _) (by omega) (by omega)), merge_join (by omega) (by omega) HPARTS.out.2.2.2.2 HP2.out HS2.out (Pm.refl _ _ _) (srtd_congr (srtd_from HPARTS.out.2.2.2.1 (by omega)) (fun x h _ => HP2.out.1 x (by omega))), HM8.out⟩
            · have p4' : decide (j < mid) = false := by simp; omega
              have HP2 : Hid (Pm a mid (rotf f j m e) (rotf f j m e)) := Pm.refl _ _ _
              have HS2 : Hid (Srtd lt (rotf f j m e) a mid) := srtd_to HPARTS.out.1 (by omega)
              by_cases p5 : mid < e
              · have p5' : ((mid : Int) < (e : Int)) := by omega
                by_cases p6 : e < b
                · have p6' : ((e : Int) < (b : Int)) := by omega
                  go_wp2_with fail
                  refine (IH.out wr _ mid e b (by omega) HR7.out p5 p6 hbn (srtd_congr HPARTS.out.2.2.1 (fun x h _ => HP2.out.1 x (by omega))) (srtd_congr HPARTS.out.2.2.2.1 (fun x h _ => HP2.out.1 x (by omega)))).mono ?_
                  rintro en w9 ⟨rfl, f9, r9, q9, s9, m9⟩
                  have HR9 := Lib.hid r9
                  have HQ9 := Lib.hid q9
                  have HS9 := Lib.hid s9
                  have HM9 := Lib.hid (HM7.out.trans m9 fun _ _ h => h)
                  clear r9 q9 s9 m9
                  go_wp2_with fail
                  go_end0
                  exact ⟨rfl, f9, HR9.out, ((HROT.out.trans (HP2.out.wide (Nat.le_refl _) (by omega) (by omega))).trans (HQ9.out.wide (by omega) (by omega) (Nat.le_refl _))), merge_join (by omega) (by omega) HPARTS.out.2.2.2.2 HP2.out HS2.out HQ9.out HS9.out, HM9.out⟩
                · have p6' : decide (e < b) = false := by simp; omega
                  go_wp2_with fail
                  go_end0
                  exact ⟨rfl, _, HR7.out, HROT.out.trans (HP2.out.wide (Nat.le_refl _) (by omega) (by omega)), merge_join (by omega) (by omega) HPARTS.out.2.2.2.2 HP2.out HS2.out (Pm.refl _ _ _) (srtd_congr (srtd_to HPARTS.out.2.2.1 (by omega)) (fun x h _ => HP2.out.1 x (by omega))), HM7.out⟩
              · have p5' : decide (mid < e) = false := by simp; omega
                go_wp2_with fail
                go_end0
                exact ⟨rfl, _, HR7.out, HROT.out.trans (HP2.out.wide (Nat.le_refl _) (by omega) (by omega)), merge_join (by omega) (by omega) HPARTS.out.2.2.2.2 HP2.out HS2.out (Pm.refl _ _ _) (srtd_congr (srtd_from HPARTS.out.2.2.2.1 (by omega)) (fun x h _ => HP2.out.1 x (by omega))), HM7.out⟩
          · have p3' : decide (a < j) = false := by simp; omega
            have HP2 : Hid (Pm a mid (rotf f j m e) (rotf f j m e)) := Pm.refl _ _ _
            have HS2 : Hid (Srtd lt (rotf f j m e) a mid) := srtd_from HPARTS.out.2.1 (by omega)
            by_cases p5 : mid < e
            · have p5' : ((mid : Int) < (e : Int)) := by omega
              by_cases p6 : e < b
              · have p6' : ((e : Int) < (b : Int)) := by omega
                go_wp2_with fail
                refine (IH.out wr _ mid e b (by omega) HR7.out p5 p6 hbn (srtd_congr HPARTS.out.2.2.1 (fun x h _ => HP2.out.1 x (by omega))) (srtd_congr HPARTS.out.2.2.2.1 (fun x h _ => HP2.out.1 x (by omega)))).mono ?_
                rintro en w9 ⟨rfl, f9, r9, q9, s9, m9⟩
                have HR9 := Lib.hid r9
                have HQ9 := Lib.hid q9
                have HS9 := Lib.hid s9
                have HM9 := Lib.hid (HM7.out.trans m9 fun _ _ h => h)
                clear r9 q9 s9 m9
                go_wp2_with fail
                go_end0
                exact ⟨rfl, f9, HR9.out, ((HROT.out.trans (HP2.out.wide (Nat.le_refl _) (by omega) (by omega))).trans (HQ9.out.wide (by omega) (by omega) (Nat.le_refl _))), merge_join (by omega) (by omega) HPARTS.out.2.2.2.2 HP2.out HS2.out HQ9.out HS9.out, HM9.out⟩
              · have p6' : decide (e < b) = false := by simp; omega
                go_wp2_with fail
                go_end0
                exact ⟨rfl, _, HR7.out, HROT.out.trans (HP2.out.wide (Nat.le_refl _) (by omega) (by omega)), merge_join (by omega) (by omega) HPARTS.out.2.2.2.2 HP2.out HS2.out (Pm.refl _ _ _) (srtd_congr (srtd_to HPARTS.out.2.2.1 (by omega)) (fun x h _ => HP2.out.1 x (by omega))), HM7.out⟩
            · have p5' : decide (mid < e) = false := by simp; omega
              go_wp2_with fail
              go_end0
              exact ⟨rfl, _, HR7.out, HROT.out.trans (HP2.out.wide (Nat.le_refl _) (by omega) (by omega)), merge_join (by omega) (by omega) HPARTS.out.2.2.2.2 HP2.out HS2.out (Pm.refl _ _ _) (srtd_congr (srtd_from HPARTS.out.2.2.2.1 (by omega)) (fun x h _ => HP2.out.1 x (by omega))), HM7.out⟩
end Go.Proofs.YtkpiioiahdcpjaaDoor
