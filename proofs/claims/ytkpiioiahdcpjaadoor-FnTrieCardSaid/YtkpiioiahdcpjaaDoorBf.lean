/- symMerge. -/
import Derived.Test.YtkpiioiahdcpjaaDoorBd
namespace Go.Proofs.YtkpiioiahdcpjaaDoor
open Go.RowKit

/-- What symMerge leaves. -/
def MergePost {α : Type} (lt : α → α → Bool) (Row : World → (Nat → α) → Prop) (S : Nat → Prop) (w : World) (f : Nat → α) (a b : Nat) (e : Ending) (w' : World) : Prop :=
  e = .returned (.tuple #[]) ∧ ∃ f', Row w' f' ∧ Pm a b f f' ∧ Srtd lt f' a b ∧ Mod S w w'

theorem rot_nil {α : Type} (f : Nat → α) (a m : Nat) : rotf f a m m = f := by
  funext k
  unfold rotf
  repeat' split
  all_goals first | (exfalso; omega) | (congr 1; omega) | rfl
theorem rot_left_step {α : Type} (f : Nat → α) (a k : Nat) (h : a ≤ k) : swpf (rotf f a (a + 1) (k + 1)) k (k + 1) = rotf f a (a + 1) (k + 2) := by
  funext x
  unfold swpf rotf
  repeat' split
  all_goals first | (exfalso; omega) | (congr 1; omega) | rfl
theorem left_sorted {α : Type} {lt : α → α → Bool} (O : OrdOk lt) {f : Nat → α} {a b i : Nat} (hi1 : a + 1 ≤ i) (hi2 : i ≤ b) (h2 : Srtd lt f (a + 1) b) (hl : i = a + 1 ∨ lt (f (i - 1)) (f a) = true) (hr : i = b ∨ lt (f i) (f a) = false) : Srtd lt (rotf f a (a + 1) i) a b := by
  have hlow : ∀ x, a + 1 ≤ x → x < i → lt (f a) (f x) = false := by
    intro x hx1 hx2
    rcases hl with hl | hl
    · omega
    · by_cases e : x = i - 1
      · subst e; exact O.asym _ _ hl
      · exact O.ltr _ _ _ (h2 x (i - 1) hx1 (by omega) (by omega)) (O.asym _ _ hl)
  have hhigh : ∀ x, i ≤ x → x < b → lt (f x) (f a) = false := by
    intro x hx1 hx2
    rcases hr with hr | hr
    · omega
    · by_cases e : x = i
      · subst e; exact hr
      · exact O.ltr _ _ _ hr (h2 i x (by omega) (by omega) hx2)
  intro x y hx hxy hy
  have ex : rotf f a (a + 1) i x = if x < i - 1 then f (x + 1) else if x = i - 1 then f a else f x := by
    unfold rotf
    repeat' split
    all_goals first | (exfalso; omega) | (congr 1; omega) | rfl
  have ey : rotf f a (a + 1) i y = if y < i - 1 then f (y + 1) else if y = i - 1 then f a else f y := by
    unfold rotf
    repeat' split
    all_goals first | (exfalso; omega) | (congr 1; omega) | rfl
  rw [ex, ey]
  by_cases c1 : y < i - 1
  · rw [if_pos c1, if_pos (by omega)]; exact h2 (x + 1) (y + 1) (by omega) (by omega) (by omega)
  · rw [if_neg c1]
    by_cases c2 : y = i - 1
    · rw [if_pos c2, if_pos (by omega)]; exact hlow (x + 1) (by omega) (by omega)
    · rw [if_neg c2]
      by_cases c3 : x < i - 1
      · rw [if_pos c3]; exact h2 (x + 1) y (by omega) (by omega) hy
      · rw [if_neg c3]
        by_cases c4 : x = i - 1
        · rw [if_pos c4]; exact hhigh y (by omega) hy
        · rw [if_neg c4]; exact h2 x y (by omega) hxy hy

set_option maxHeartbeats 3200000 in
set_option maxRecDepth 100000 in
theorem merge_left {n : Nat} {α : Type} {lt : α → α → Bool} {g : Nat} {lb : Array Value} {sf : Nat} {sb : Array Value} {Row : World → (Nat → α) → Prop} {S : Nat → Prop} (C : Srt n lt g lb sf sb Row S) (O : OrdOk lt) (eg : ∀ args w, (callFunc g args).run Tryd.prog w = .ok (.enter g args) w)
    (w : World) (f : Nat → α) (a m b : Nat) (hr : Row w f) (ham : m = a + 1) (hmb : m < b) (hbn : b ≤ n) (h1 : Srtd lt f a m) (h2 : Srtd lt f m b) :
    Calls Tryd.prog 46 #[.agg #[.func (.func g) #[] lb, .func (.func sf) #[] sb], .int .i64 a, .int .i64 m, .int .i64 b] w (MergePost lt Row S w f a b) := by
  have HC := Lib.hid C
  have HO := Lib.hid O
  have HR := Lib.hid hr
  have H1 := Lib.hid h1
  have H2 := Lib.hid h2
  have hn := C.small
  have hS : Hid (∀ x, S x → x ≠ w.heap.size) := fun x hx => by have := C.old w f hr x hx; omega
  clear C hr O h1 h2
  have t0 : ((m : Int) - (a : Int) == 1) = true := by rw [beq_iff_eq]; omega
  have ham1 : m ≤ a + 1 := by omega
  have ham2 : a + 1 ≤ m := by omega
  have HAM := Lib.hid ham
  clear ham
  go_enter Tryd.func46, Tryd.ntmps46
  go_wp2_with fail
  go_loopg [8, 9] (b - m) (fun kq v8 v9 wr => ∃ i j : Nat, v8 = .int .i64 i ∧ v9 = .int .i64 j ∧ m ≤ i ∧ i ≤ j ∧ j ≤ b ∧ Hid (kq = j - i ∧ (i = m ∨ lt (f (i - 1)) (f a) = true) ∧ (j = b ∨ lt (f j) (f a) = false) ∧ Row wr f ∧ Mod Nowhere w wr ∧ Blk wr w.heap.size 77 #[.func (.func g) #[] lb, .func (.func sf) #[] sb]))
  case atStart =>
    have hm := (Mod.refl Nowhere w).alloc (.cells #[.func (.func g) #[] lb, .func (.func sf) #[] sb] 77)
    exact ⟨m, b, rfl, rfl, Nat.le_refl _, by omega, Nat.le_refl _, rfl, .inl rfl, .inl rfl, HC.out.keep _ _ _ HR.out hm, hm, Blk.new w 77 _⟩
  case round =>
    obtain ⟨i, j, rfl, rfl, hmi, hij, hjb, H⟩ := hrel
    obtain ⟨hkq, hi, hj, hrow, hm, hblk⟩ := H.out
    have HKQ := Lib.hid hkq
    have HI := Lib.hid hi
    have HJ := Lib.hid hj
    have HROW := Lib.hid hrow
    have HM := Lib.hid hm
    have HB := Lib.hid hblk
    have x0 := hblk.cell 0
    have x1 := hblk.cell 1
    simp only [List.getElem?_toArray, List.getElem?_cons_zero, List.getElem?_cons_succ] at x0 x1
    clear H hkq hi hj hrow hm hblk
    by_cases hlt : i < j
    · have d1 : (((i : Int) + (j : Int)) / 2) = (((i + j) / 2 : Nat) : Int) := by omega
      have hl := HC.out.less wr f ((i + j) / 2) a HROW.out (by omega) (by omega)
      have hh1 : (i + j) / 2 < j := by omega
      have hh2 : i ≤ (i + j) / 2 := by omega
      generalize hh : (i + j) / 2 = h at *
      cases hlv : lt (f h) (f a) with
      | true =>
        rw [hlv] at hl
        go_wp2_with (go_at_fn g; refine hl.mono ?_; rintro e w2 ⟨rfl, hm2⟩; have HM2 := Lib.hid hm2; clear hm2)
        go_roundg (j - (h + 1))
        case measure => have := HKQ.out; omega
        case rel => exact ⟨h + 1, j, by go_num, rfl, by omega, by omega, hjb, rfl, .inr hlv, HJ.out, HC.out.keep _ _ _ HROW.out HM2.out, HM.out.then HM2.out, HB.out.keep HM2.out (fun h => h)⟩
      | false =>
        rw [hlv] at hl
        go_wp2_with (go_at_fn g; refine hl.mono ?_; rintro e w2 ⟨rfl, hm2⟩; have HM2 := Lib.hid hm2; clear hm2)
        go_roundg (h - i)
        case measure => have := HKQ.out; omega
        case rel => exact ⟨i, h, rfl, rfl, hmi, hh2, by omega, rfl, HI.out, .inr hlv, HC.out.keep _ _ _ HROW.out HM2.out, HM.out.then HM2.out, HB.out.keep HM2.out (fun h => h)⟩
    · have hend : decide (i < j) = false := by simp; omega
      have hje : j = i := by omega
      subst hje
      go_wp2_with fail
      obtain ⟨gk0, hgk0⟩ : ∃ x, x = gk := ⟨_, rfl⟩
      subst hgk0
      go_loopg [11] (j - a) (fun kq v11 wr => ∃ k : Nat, v11 = .int .i64 k ∧ a ≤ k ∧ k + 1 ≤ j ∧ Hid (kq = j - k ∧ Row wr (rotf f a (a + 1) (k + 1)) ∧ Mod S w wr ∧ Blk wr w.heap.size 77 #[.func (.func g) #[] lb, .func (.func sf) #[] sb]))
      case atStart => exact ⟨a, rfl, Nat.le_refl _, by omega, rfl, by rw [rot_nil]; exact HROW.out, HM.out.any _, HB.out⟩
      case round =>
        clear HROW HM HB x0 x1
        obtain ⟨k, rfl, hak, hkj, H⟩ := hrel
        obtain ⟨hkq, hrow, hm, hblk⟩ := H.out
        have HKQ2 := Lib.hid hkq
        have HROW := Lib.hid hrow
        have HM := Lib.hid hm
        have HB := Lib.hid hblk
        have x0 := hblk.cell 0
        have x1 := hblk.cell 1
        simp only [List.getElem?_toArray, List.getElem?_cons_zero, List.getElem?_cons_succ] at x0 x1
        clear H hkq hrow hm hblk
        have d2 : ((j : Int) - 1) = ((j - 1 : Nat) : Int) := by omega
        by_cases hlt2 : k < j - 1
        · obtain ⟨w3, hrun, hrow3, hm3⟩ := HC.out.swap wr _ k (k + 1) HROW.out (by omega) (by omega)
          have HROW3 := Lib.hid hrow3
          have HM3 := Lib.hid (HM.out.trans hm3 fun _ _ h => h)
          have HB3 := Lib.hid (HB.out.keep hm3 (fun h => hS.out _ h rfl))
          have HRUN := Lib.hid hrun
          clear hrow3 hm3 hrun
          go_wp2_with fail
          have hrun := HRUN.out
          rw [Int.natCast_add] at hrun
          rw [show ((1 : Nat) : Int) = 1 from rfl] at hrun
          rw [hrun, Oper.upon_value]
          clear hrun
          go_wp2_with fail
          go_roundg (j - (k + 1))
          case measure => have := HKQ2.out; omega
          case rel => exact ⟨k + 1, by go_num, by omega, by omega, rfl, by rw [← rot_left_step f a k hak]; exact HROW3.out, HM3.out, HB3.out⟩
        · have hend2 : decide (k < j - 1) = false := by simp; omega
          have hke : k + 1 = j := by omega
          go_wp2_with fail
          refine bodyPost_ret (results_none rfl _ _ _) rfl ?_
          refine ⟨rfl, rotf f a (a + 1) j, by rw [← hke]; exact HROW.out, (Pm.rot f (by omega) (by omega)).wide (Nat.le_refl _) (by omega) hjb, ?_, HM.out⟩
          exact left_sorted HO.out (by omega) hjb (by rw [← HAM.out]; exact H2.out) (by rw [← HAM.out]; exact HI.out) HJ.out
end Go.Proofs.YtkpiioiahdcpjaaDoor

/- symMerge, one element on the right. -/
namespace Go.Proofs.YtkpiioiahdcpjaaDoor
open Go.RowKit

theorem rot_none {α : Type} (f : Nat → α) (m : Nat) : rotf f m m (m + 1) = f := by
  funext k
  unfold rotf
  repeat' split
  all_goals first | (exfalso; omega) | (congr 1; omega) | rfl
theorem rot_right_step {α : Type} (f : Nat → α) (k m : Nat) (h0 : 0 < k) (h : k ≤ m) : swpf (rotf f k m (m + 1)) k (k - 1) = rotf f (k - 1) m (m + 1) := by
  funext x
  unfold swpf rotf
  repeat' split
  all_goals first | (exfalso; omega) | (congr 1; omega) | rfl
theorem right_sorted {α : Type} {lt : α → α → Bool} (O : OrdOk lt) {f : Nat → α} {a m i : Nat} (hi1 : a ≤ i) (hi2 : i ≤ m) (h1 : Srtd lt f a m) (hl : i = a ∨ lt (f m) (f (i - 1)) = false) (hr : i = m ∨ lt (f m) (f i) = true) : Srtd lt (rotf f i m (m + 1)) a (m + 1) := by
  have hlow : ∀ x, a ≤ x → x < i → lt (f m) (f x) = false := by
    intro x hx1 hx2
    rcases hl with hl | hl
    · omega
    · by_cases e : x = i - 1
      · subst e; exact hl
      · exact O.ltr _ _ _ (h1 x (i - 1) hx1 (by omega) (by omega)) hl
  have hhigh : ∀ x, i ≤ x → x < m → lt (f x) (f m) = false := by
    intro x hx1 hx2
    rcases hr with hr | hr
    · omega
    · by_cases e : x = i
      · subst e; exact O.asym _ _ hr
      · exact O.ltr _ _ _ (O.asym _ _ hr) (h1 i x (by omega) (by omega) hx2)
  intro x y hx hxy hy
  have ex : rotf f i m (m + 1) x = if x < i then f x else if x = i then f m else f (x - 1) := by
    unfold rotf
    repeat' split
    all_goals first | (exfalso; omega) | (congr 1; omega) | rfl
  have ey : rotf f i m (m + 1) y = if y < i then f y else if y = i then f m else f (y - 1) := by
    unfold rotf
    repeat' split
    all_goals first | (exfalso; omega) | (congr 1; omega) | rfl
  rw [ex, ey]
  by_cases c1 : y < i
  · rw [if_pos c1, if_pos (by omega)]; exact h1 x y hx hxy (by omega)
  · rw [if_neg c1]
    by_cases c2 : y = i
    · rw [if_pos c2, if_pos (by omega)]; exact hlow x hx (by omega)
    · rw [if_neg c2]
      by_cases c3 : x < i
      · rw [if_pos c3]; exact h1 x (y - 1) hx (by omega) (by omega)
      · rw [if_neg c3]
        by_cases c4 : x = i
        · rw [if_pos c4]; exact hhigh (y - 1) (by omega) (by omega)
        · rw [if_neg c4]; exact h1 (x - 1) (y - 1) (by omega) (by omega) (by omega)

set_option maxHeartbeats 3200000 in
set_option maxRecDepth 100000 in
theorem merge_right {n : Nat} {α : Type} {lt : α → α → Bool} {g : Nat} {lb : Array Value} {sf : Nat} {sb : Array Value} {Row : World → (Nat → α) → Prop} {S : Nat → Prop} (C : Srt n lt g lb sf sb Row S) (O : OrdOk lt) (eg : ∀ args w, (callFunc g args).run Tryd.prog w = .ok (.enter g args) w)
    (w : World) (f : Nat → α) (a m b : Nat) (hr : Row w f) (ham : a + 1 < m) (hmb : b = m + 1) (hbn : b ≤ n) (h1 : Srtd lt f a m) :
    Calls Tryd.prog 46 #[.agg #[.func (.func g) #[] lb, .func (.func sf) #[] sb], .int .i64 a, .int .i64 m, .int .i64 b] w (MergePost lt Row S w f a b) := by
  have HC := Lib.hid C
  have HO := Lib.hid O
  have HR := Lib.hid hr
  have H1 := Lib.hid h1
  have hn := C.small
  have hS : Hid (∀ x, S x → x ≠ w.heap.size) := fun x hx => by have := C.old w f hr x hx; omega
  clear C hr O h1
  have t0 : ((m : Int) - (a : Int) == 1) = false := by rw [beq_eq_false_iff_ne]; omega
  have t1 : ((b : Int) - (m : Int) == 1) = true := by rw [beq_iff_eq]; omega
  have hmb1 : m + 1 ≤ b := by omega
  have hmb2 : b ≤ m + 1 := by omega
  have HMB := Lib.hid hmb
  clear hmb
  go_enter Tryd.func46, Tryd.ntmps46
  go_wp2_with fail
  go_loopg [12, 13] (m - a) (fun kq v12 v13 wr => ∃ i j : Nat, v12 = .int .i64 i ∧ v13 = .int .i64 j ∧ a ≤ i ∧ i ≤ j ∧ j ≤ m ∧ Hid (kq = j - i ∧ (i = a ∨ lt (f m) (f (i - 1)) = false) ∧ (j = m ∨ lt (f m) (f j) = true) ∧ Row wr f ∧ Mod Nowhere w wr ∧ Blk wr w.heap.size 77 #[.func (.func g) #[] lb, .func (.func sf) #[] sb]))
  case atStart =>
    have hm := (Mod.refl Nowhere w).alloc (.cells #[.func (.func g) #[] lb, .func (.func sf) #[] sb] 77)
    exact ⟨a, m, rfl, rfl, Nat.le_refl _, by omega, Nat.le_refl _, rfl, .inl rfl, .inl rfl, HC.out.keep _ _ _ HR.out hm, hm, Blk.new w 77 _⟩
  case round =>
    obtain ⟨i, j, rfl, rfl, hmi, hij, hjb, H⟩ := hrel
    obtain ⟨hkq, hi, hj, hrow, hm, hblk⟩ := H.out
    have HKQ := Lib.hid hkq
    have HI := Lib.hid hi
    have HJ := Lib.hid hj
    have HROW := Lib.hid hrow
    have HM := Lib.hid hm
    have HB := Lib.hid hblk
    have x0 := hblk.cell 0
    have x1 := hblk.cell 1
    simp only [List.getElem?_toArray, List.getElem?_cons_zero, List.getElem?_cons_succ] at x0 x1
    clear H hkq hi hj hrow hm hblk
    by_cases hlt : i < j
    · have d1 : (((i : Int) + (j : Int)) / 2) = (((i + j) / 2 : Nat) : Int) := by omega
      have hl := HC.out.less wr f m ((i + j) / 2) HROW.out (by omega) (by omega)
      have hh1 : (i + j) / 2 < j := by omega
      have hh2 : i ≤ (i + j) / 2 := by omega
      generalize hh : (i + j) / 2 = h at *
      cases hlv : lt (f m) (f h) with
      | false =>
        rw [hlv] at hl
        go_wp2_with (go_at_fn g; refine hl.mono ?_; rintro e w2 ⟨rfl, hm2⟩; have HM2 := Lib.hid hm2; clear hm2)
        go_roundg (j - (h + 1))
        case measure => have := HKQ.out; omega
        case rel => exact ⟨h + 1, j, by go_num, rfl, by omega, by omega, hjb, rfl, .inr hlv, HJ.out, HC.out.keep _ _ _ HROW.out HM2.out, HM.out.then HM2.out, HB.out.keep HM2.out (fun h => h)⟩
      | true =>
        rw [hlv] at hl
        go_wp2_with (go_at_fn g; refine hl.mono ?_; rintro e w2 ⟨rfl, hm2⟩; have HM2 := Lib.hid hm2; clear hm2)
        go_roundg (h - i)
        case measure => have := HKQ.out; omega
        case rel => exact ⟨i, h, rfl, rfl, hmi, hh2, by omega, rfl, HI.out, .inr hlv, HC.out.keep _ _ _ HROW.out HM2.out, HM.out.then HM2.out, HB.out.keep HM2.out (fun h => h)⟩
    · have hend : decide (i < j) = false := by simp; omega
      have hje : j = i := by omega
      subst hje
      go_wp2_with fail
      obtain ⟨gk0, hgk0⟩ : ∃ x, x = gk := ⟨_, rfl⟩
      subst hgk0
      go_loopg [15] m (fun kq v15 wr => ∃ k : Nat, v15 = .int .i64 k ∧ j ≤ k ∧ k ≤ m ∧ Hid (kq = k ∧ Row wr (rotf f k m (m + 1)) ∧ Mod S w wr ∧ Blk wr w.heap.size 77 #[.func (.func g) #[] lb, .func (.func sf) #[] sb]))
      case atStart => exact ⟨m, rfl, by omega, Nat.le_refl _, rfl, by rw [rot_none]; exact HROW.out, HM.out.any _, HB.out⟩
      case round =>
        clear HROW HM HB x0 x1
        obtain ⟨k, rfl, hak, hkj, H⟩ := hrel
        obtain ⟨hkq, hrow, hm, hblk⟩ := H.out
        have HKQ2 := Lib.hid hkq
        have HROW := Lib.hid hrow
        have HM := Lib.hid hm
        have HB := Lib.hid hblk
        have x0 := hblk.cell 0
        have x1 := hblk.cell 1
        simp only [List.getElem?_toArray, List.getElem?_cons_zero, List.getElem?_cons_succ] at x0 x1
        clear H hkq hrow hm hblk
        by_cases hlt2 : j < k
        · have d2 : ((k : Int) - 1) = ((k - 1 : Nat) : Int) := by omega
          have t2 : decide ((k : Int) > (j : Int)) = true := by rw [decide_eq_true_iff]; omega
          obtain ⟨w3, hrun, hrow3, hm3⟩ := HC.out.swap wr _ k (k - 1) HROW.out (by omega) (by omega)
          have HROW3 := Lib.hid hrow3
          have HM3 := Lib.hid (HM.out.trans hm3 fun _ _ h => h)
          have HB3 := Lib.hid (HB.out.keep hm3 (fun h => hS.out _ h rfl))
          have HRUN := Lib.hid hrun
          clear hrow3 hm3 hrun
          go_wp2_with fail
          have hrun := HRUN.out
          rw [hrun, Oper.upon_value]
          clear hrun
          go_wp2_with fail
          go_roundg (k - 1)
          case measure => have := HKQ2.out; omega
          case rel => exact ⟨k - 1, by first | rfl | go_num, by omega, by omega, rfl, by rw [← rot_right_step f k m (by omega) hkj]; exact HROW3.out, HM3.out, HB3.out⟩
        · have t2 : decide ((k : Int) > (j : Int)) = false := by rw [decide_eq_false_iff_not]; omega
          have hke : k = j := by omega
          go_wp2_with fail
          refine bodyPost_ret (results_none rfl _ _ _) rfl ?_
          rw [HMB.out]
          refine ⟨rfl, rotf f j m (m + 1), by rw [← hke]; exact HROW.out, (Pm.rot f (by omega) (by omega)).wide (by omega) (by omega) (Nat.le_refl _), ?_, HM.out⟩
          exact right_sorted HO.out (by omega) (by omega) H1.out HI.out HJ.out
end Go.Proofs.YtkpiioiahdcpjaaDoor
