/- Sorting by a less and a swap: what is asked of them; swapRange. -/
import Derived.Test.YtkpiioiahdcpjaaDoorA
import Derived.Shelf.Lay
import Derived.Deep.LoopGhost
namespace Go.Proofs.YtkpiioiahdcpjaaDoor
open Go.RowKit

def swpf {α : Type} (f : Nat → α) (i j : Nat) : Nat → α := fun k => if k = i then f j else if k = j then f i else f k

/-- What a sort is handed: less and swap over n elements, which lie as Row says; swap writes blocks of S alone. -/
structure Srt (n : Nat) {α : Type} (lt : α → α → Bool) (g : Nat) (lb : Array Value) (sf : Nat) (sb : Array Value) (Row : World → (Nat → α) → Prop) (S : Nat → Prop) : Prop where
  less : ∀ (w : World) (f : Nat → α) (i j : Nat), Row w f → i < n → j < n → Calls Tryd.prog g (#[.int .i64 i, .int .i64 j] ++ lb) w fun e w' => e = .returned (.bool (lt (f i) (f j))) ∧ Mod Nowhere w w'
  swap : ∀ (w : World) (f : Nat → α) (i j : Nat), Row w f → i < n → j < n → ∃ w', (callFunc sf (#[.int .i64 i, .int .i64 j] ++ sb)).run Tryd.prog w = .ok (.value (.tuple #[])) w' ∧ Row w' (swpf f i j) ∧ Mod S w w'
  keep : ∀ (w w' : World) (f : Nat → α), Row w f → Mod Nowhere w w' → Row w' f
  old : ∀ (w : World) (f : Nat → α), Row w f → ∀ b, S b → b < w.heap.size
  small : n ≤ 1000

/-- Two ranges changed for one another. -/
def srf {α : Type} (f : Nat → α) (p q c : Nat) : Nat → α := fun k => if p ≤ k ∧ k < p + c then f (k - p + q) else if q ≤ k ∧ k < q + c then f (k - q + p) else f k

theorem srf_zero {α : Type} (f : Nat → α) (p q : Nat) : srf f p q 0 = f := by
  funext k
  unfold srf
  rw [if_neg (by omega), if_neg (by omega)]
theorem srf_step {α : Type} (f : Nat → α) (p q i : Nat) (h : p + i < q) : swpf (srf f p q i) (p + i) (q + i) = srf f p q (i + 1) := by
  funext k
  unfold swpf srf
  grind

set_option maxHeartbeats 800000 in
set_option maxRecDepth 100000 in
theorem swapRange_any {n : Nat} {α : Type} {lt : α → α → Bool} {g : Nat} {lb : Array Value} {sf : Nat} {sb : Array Value} {Row : World → (Nat → α) → Prop} {S : Nat → Prop} (C : Srt n lt g lb sf sb Row S)
    (w : World) (f : Nat → α) (p q c : Nat) (hr : Row w f) (hp : p + c ≤ q) (hq : q + c ≤ n) :
    Calls Tryd.prog 66 #[.agg #[.func (.func g) #[] lb, .func (.func sf) #[] sb], .int .i64 p, .int .i64 q, .int .i64 c] w fun e w' => e = .returned (.tuple #[]) ∧ Row w' (srf f p q c) ∧ Mod S w w' := by
  have HC := Lib.hid C
  have HR := Lib.hid hr
  have hn := C.small
  clear C hr
  go_enter Tryd.func66, Tryd.ntmps66
  go_wp2_with fail
  go_loopg [8] c (fun kq v8 wr => ∃ i : Nat, v8 = .int .i64 i ∧ i ≤ c ∧ Hid (kq = c - i ∧ Row wr (srf f p q i) ∧ Mod S w wr ∧ wr.cell? ⟨w.heap.size, 1, none⟩ = some (.func (.func sf) #[] sb)))
  case atStart =>
    have hm := (Mod.refl Nowhere w).alloc (.cells #[.func (.func g) #[] lb, .func (.func sf) #[] sb] 77)
    exact ⟨0, rfl, Nat.zero_le _, rfl, by rw [srf_zero]; exact HC.out.keep _ _ _ HR.out hm, hm.any _, (Blk.new w 77 #[.func (.func g) #[] lb, .func (.func sf) #[] sb]).cell 1⟩
  case round =>
    obtain ⟨i, rfl, hi, H⟩ := hrel
    by_cases hlt : i < c
    · have x1 := H.out.2.2.2
      obtain ⟨w2, hrun, hrow, hm⟩ := HC.out.swap wr _ (p + i) (q + i) H.out.2.1 (by omega) (by omega)
      have HROW := Lib.hid hrow
      have HM := Lib.hid hm
      have x2 : Hid (w2.cell? ⟨w.heap.size, 1, none⟩ = some (.func (.func sf) #[] sb)) := hm.keeps x1 (fun h => by have := HC.out.old w f HR.out _ h; simp only at this; omega)
      have HRUN := Lib.hid hrun
      clear hrun hrow hm
      go_wp2_with fail
      have hrun := HRUN.out
      rw [Int.natCast_add, Int.natCast_add] at hrun
      rw [hrun, Oper.upon_value]
      go_wp2_with fail
      go_roundg (c - (i + 1))
      case measure => have := H.out.1; omega
      case rel => exact ⟨i + 1, by go_num, by omega, rfl, by rw [← srf_step f p q i (by omega)]; exact HROW.out, H.out.2.2.1.trans HM.out fun _ _ h => h, x2.out⟩
    · have hend : decide (i < c) = false := by simp; omega
      have hie : i = c := by omega
      subst hie
      go_wp2_with fail
      go_end0
      exact ⟨rfl, H.out.2.1, H.out.2.2.1⟩
end Go.Proofs.YtkpiioiahdcpjaaDoor

/- rotate. -/
namespace Go.Proofs.YtkpiioiahdcpjaaDoor
open Go.RowKit

/-- Two neighbouring ranges changed for one another. -/
def rotf {α : Type} (f : Nat → α) (lo m hi : Nat) : Nat → α := fun k => if lo ≤ k ∧ k < lo + (hi - m) then f (k + (m - lo)) else if lo + (hi - m) ≤ k ∧ k < hi then f (k - (hi - m)) else f k

theorem rot_gt {α : Type} (f : Nat → α) (m i j : Nat) (hij : j < i) (him : i ≤ m) : rotf (srf f (m - i) m j) (m - (i - j)) m (m + j) = rotf f (m - i) m (m + j) := by
  funext k
  unfold rotf srf
  repeat' split
  all_goals first | (exfalso; omega) | (congr 1; omega) | rfl
theorem rot_lt {α : Type} (f : Nat → α) (m i j : Nat) (hij : i < j) (him : i ≤ m) : rotf (srf f (m - i) (m + j - i) i) (m - i) m (m + (j - i)) = rotf f (m - i) m (m + j) := by
  funext k
  unfold rotf srf
  repeat' split
  all_goals first | (exfalso; omega) | (congr 1; omega) | rfl
theorem rot_eq {α : Type} (f : Nat → α) (m i : Nat) (him : i ≤ m) : srf f (m - i) m i = rotf f (m - i) m (m + i) := by
  funext k
  unfold rotf srf
  repeat' split
  all_goals first | (exfalso; omega) | (congr 1; omega) | rfl

set_option maxHeartbeats 800000 in
set_option maxRecDepth 100000 in
theorem rotate_any {n : Nat} {α : Type} {lt : α → α → Bool} {g : Nat} {lb : Array Value} {sf : Nat} {sb : Array Value} {Row : World → (Nat → α) → Prop} {S : Nat → Prop} (C : Srt n lt g lb sf sb Row S)
    (w : World) (f : Nat → α) (a m b : Nat) (hr : Row w f) (ham : a < m) (hmb : m < b) (hbn : b ≤ n) :
    Calls Tryd.prog 56 #[.agg #[.func (.func g) #[] lb, .func (.func sf) #[] sb], .int .i64 a, .int .i64 m, .int .i64 b] w fun e w' => e = .returned (.tuple #[]) ∧ Row w' (rotf f a m b) ∧ Mod S w w' := by
  have HC := Lib.hid C
  have HR := Lib.hid hr
  have hn := C.small
  have hS : Hid (∀ x, S x → x ≠ w.heap.size) := fun x hx => by have := C.old w f hr x hx; omega
  clear C hr
  have e1 : ((m : Int) - (a : Int)) = ((m - a : Nat) : Int) := by omega
  have e2 : ((b : Int) - (m : Int)) = ((b - m : Nat) : Int) := by omega
  go_enter Tryd.func56, Tryd.ntmps56
  go_wp2_with fail
  go_loopg [8, 9] (b - a) (fun kq v8 v9 wr => ∃ i j : Nat, v8 = .int .i64 i ∧ v9 = .int .i64 j ∧ 0 < i ∧ 0 < j ∧ i ≤ m - a ∧ j ≤ b - m ∧ Hid (kq = i + j ∧ (∃ f', Row wr f' ∧ rotf f' (m - i) m (m + j) = rotf f a m b) ∧ Mod S w wr ∧ Blk wr w.heap.size 77 #[.func (.func g) #[] lb, .func (.func sf) #[] sb]))
  case atStart =>
    have hm := (Mod.refl Nowhere w).alloc (.cells #[.func (.func g) #[] lb, .func (.func sf) #[] sb] 77)
    refine ⟨m - a, b - m, by first | rfl | (rw [← e1]; go_num) | go_num, by first | rfl | go_num, by omega, by omega, Nat.le_refl _, Nat.le_refl _, by show _ = _; omega, ⟨f, HC.out.keep _ _ _ HR.out hm, ?_⟩, hm.any _, Blk.new w 77 _⟩
    rw [show m - (m - a) = a by omega, show m + (b - m) = b by omega]
  case round =>
    obtain ⟨i, j, rfl, rfl, hi0, hj0, hia, hjb, H⟩ := hrel
    obtain ⟨hkq, ⟨f', hrow, hrot⟩, hm, hblk⟩ := H.out
    have HKQ := Lib.hid hkq
    have HROW := Lib.hid hrow
    have HROT := Lib.hid hrot
    have HM := Lib.hid hm
    have HB := Lib.hid hblk
    have x0 := hblk.cell 0
    have x1 := hblk.cell 1
    simp only [List.getElem?_toArray, List.getElem?_cons_zero, List.getElem?_cons_succ] at x0 x1
    clear H hkq hrow hrot hm hblk e1 e2
    have d1 : ((m : Int) - (i : Int)) = ((m - i : Nat) : Int) := by omega
    rcases Nat.lt_trichotomy i j with hij | hij | hij
    · have t1 : ((i : Int) != (j : Int)) = true := by rw [bne_iff_ne]; omega
      have t2 : decide ((i : Int) > (j : Int)) = false := by rw [decide_eq_false_iff_not]; omega
      have d3 : ((m : Int) + (j : Int) - (i : Int)) = ((m + j - i : Nat) : Int) := by omega
      have d4 : ((j : Int) - (i : Int)) = ((j - i : Nat) : Int) := by omega
      go_wp2_with fail
      refine (swapRange_any HC.out wr f' (m - i) (m + j - i) i HROW.out (by omega) (by omega)).mono ?_
      rintro en w2 ⟨rfl, hr2, hm2⟩
      have HR2 := Lib.hid hr2
      have HB2 := Lib.hid (HB.out.keep hm2 (fun h => hS.out _ h rfl))
      have HM2 := Lib.hid (HM.out.trans hm2 fun _ _ h => h)
      have x0 := HB2.out.cell 0
      have x1 := HB2.out.cell 1
      simp only [List.getElem?_toArray, List.getElem?_cons_zero, List.getElem?_cons_succ] at x0 x1
      clear hr2 hm2
      go_wp2_with fail
      go_roundg (i + (j - i))
      case measure => have := HKQ.out; omega
      case rel => exact ⟨i, j - i, by first | rfl | go_num, by first | rfl | go_num, by omega, by omega, by omega, by omega, rfl, ⟨_, HR2.out, by rw [← HROT.out]; exact rot_lt f' m i j hij (by omega)⟩, HM2.out, HB2.out⟩
    · have t1 : ((i : Int) != (j : Int)) = false := by rw [bne_eq_false_iff_eq]; omega
      subst hij
      go_wp2_with fail
      refine (swapRange_any HC.out wr f' (m - i) m i HROW.out (by omega) (by omega)).mono ?_
      rintro en w2 ⟨rfl, hr2, hm2⟩
      have HR2 := Lib.hid hr2
      have HM2 := Lib.hid (HM.out.trans hm2 fun _ _ h => h)
      clear hr2 hm2
      go_wp2_with fail
      go_end0
      refine ⟨rfl, ?_, HM2.out⟩
      rw [← HROT.out, ← rot_eq f' m i (by omega)]
      exact HR2.out
    · have t1 : ((i : Int) != (j : Int)) = true := by rw [bne_iff_ne]; omega
      have t2 : decide ((i : Int) > (j : Int)) = true := by rw [decide_eq_true_iff]; omega
      have d4 : ((i : Int) - (j : Int)) = ((i - j : Nat) : Int) := by omega
      go_wp2_with fail
      refine (swapRange_any HC.out wr f' (m - i) m j HROW.out (by omega) (by omega)).mono ?_
      rintro en w2 ⟨rfl, hr2, hm2⟩
      have HR2 := Lib.hid hr2
      have HB2 := Lib.hid (HB.out.keep hm2 (fun h => hS.out _ h rfl))
      have HM2 := Lib.hid (HM.out.trans hm2 fun _ _ h => h)
      have x0 := HB2.out.cell 0
      have x1 := HB2.out.cell 1
      simp only [List.getElem?_toArray, List.getElem?_cons_zero, List.getElem?_cons_succ] at x0 x1
      clear hr2 hm2
      go_wp2_with fail
      go_roundg (i - j + j)
      case measure => have := HKQ.out; omega
      case rel => exact ⟨i - j, j, by first | rfl | go_num, by first | rfl | go_num, by omega, by omega, by omega, by omega, rfl, ⟨_, HR2.out, by rw [← HROT.out]; exact rot_gt f' m i j hij (by omega)⟩, HM2.out, HB2.out⟩
end Go.Proofs.YtkpiioiahdcpjaaDoor
