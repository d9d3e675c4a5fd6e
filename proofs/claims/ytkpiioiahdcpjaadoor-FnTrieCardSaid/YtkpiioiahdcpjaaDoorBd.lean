/- Sorted ranges and their permutations, plain. -/
import Derived.Test.YtkpiioiahdcpjaaDoorBb
namespace Go.Proofs.YtkpiioiahdcpjaaDoor
open Go.RowKit

/-- A strict weak order. -/
structure OrdOk {α : Type} (lt : α → α → Bool) : Prop where
  irr : ∀ x, lt x x = false
  asym : ∀ x y, lt x y = true → lt y x = false
  ltr : ∀ x y z, lt y x = false → lt z y = false → lt z x = false

def Srtd {α : Type} (lt : α → α → Bool) (f : Nat → α) (a b : Nat) : Prop := ∀ x y, a ≤ x → x < y → y < b → lt (f y) (f x) = false
def seg {α : Type} (f : Nat → α) (a b : Nat) : List α := (List.range' a (b - a)).map f
/-- The range a..b permuted, all else as it was. -/
def Pm {α : Type} (a b : Nat) (f f' : Nat → α) : Prop := (∀ k, ¬ (a ≤ k ∧ k < b) → f' k = f k) ∧ (seg f' a b).Perm (seg f a b)

section
variable {α : Type} {a b c : Nat} {f g h : Nat → α} {lt : α → α → Bool}
theorem Pm.refl (a b : Nat) (f : Nat → α) : Pm a b f f := ⟨fun _ _ => rfl, List.Perm.refl _⟩
theorem Pm.trans (h1 : Pm a b f g) (h2 : Pm a b g h) : Pm a b f h := ⟨fun k hk => (h2.1 k hk).trans (h1.1 k hk), h2.2.trans h1.2⟩
theorem seg_congr (h : ∀ k, a ≤ k → k < b → f k = g k) : seg f a b = seg g a b := by
  unfold seg
  apply List.map_congr_left
  intro k hk
  rw [List.mem_range'_1] at hk
  exact h k hk.1 (by omega)
theorem seg_split (f : Nat → α) (h1 : a ≤ b) (h2 : b ≤ c) : seg f a c = seg f a b ++ seg f b c := by
  unfold seg
  rw [← List.map_append]
  congr 1
  have := List.range'_append_1 (s := a) (m := b - a) (n := c - b)
  rw [show a + (b - a) = b by omega, show b - a + (c - b) = c - a by omega] at this
  exact this.symm
theorem Pm.wide {a' b' : Nat} (h : Pm a b f g) (ha : a' ≤ a) (hab : a ≤ b) (hb : b ≤ b') : Pm a' b' f g := by
  refine ⟨fun k hk => h.1 k (by omega), ?_⟩
  rw [seg_split g ha (by omega : a ≤ b'), seg_split g hab hb, seg_split f ha (by omega : a ≤ b'), seg_split f hab hb]
  rw [seg_congr (f := g) (g := f) (a := a') (b := a) (fun k _ hk => h.1 k (by omega)), seg_congr (f := g) (g := f) (a := b) (b := b') (fun k hk _ => h.1 k (by omega))]
  exact ((h.2.append_right _)).append_left _
/-- Places permuted. -/
theorem Pm.of_map (s t : Nat → Nat) (hs : ∀ k, a ≤ k → k < b → a ≤ s k ∧ s k < b) (ht : ∀ k, a ≤ k → k < b → a ≤ t k ∧ t k < b) (hst : ∀ k, a ≤ k → k < b → s (t k) = k) (hts : ∀ k, a ≤ k → k < b → t (s k) = k)
    (hg : ∀ k, a ≤ k → k < b → g k = f (s k)) (ho : ∀ k, ¬ (a ≤ k ∧ k < b) → g k = f k) : Pm a b f g := by
  refine ⟨ho, ?_⟩
  have h1 : seg g a b = ((List.range' a (b - a)).map s).map f := by
    rw [List.map_map]
    unfold seg
    apply List.map_congr_left
    intro k hk
    rw [List.mem_range'_1] at hk
    exact hg k hk.1 (by omega)
  rw [h1]
  refine List.Perm.map f ?_
  refine (List.perm_ext_iff_of_nodup ?_ List.nodup_range').2 fun x => ?_
  · refine List.pairwise_map.2 (List.Pairwise.imp_of_mem ?_ (List.nodup_range' (s := a) (n := b - a)))
    intro x y hx hy hne e
    rw [List.mem_range'_1] at hx hy
    have h2 := hts x hx.1 (by omega)
    have h3 := hts y hy.1 (by omega)
    rw [e] at h2
    exact hne (h2.symm.trans h3)
  · rw [List.mem_map, List.mem_range'_1]
    constructor
    · rintro ⟨y, hy, rfl⟩
      rw [List.mem_range'_1] at hy
      have := hs y hy.1 (by omega)
      omega
    · intro hx
      have := ht x hx.1 (by omega)
      exact ⟨t x, by rw [List.mem_range'_1]; omega, hst x hx.1 (by omega)⟩
theorem Pm.swap (f : Nat → α) {i j : Nat} (h1 : a ≤ i) (h2 : i < b) (h3 : a ≤ j) (h4 : j < b) : Pm a b f (swpf f i j) := by
  let s : Nat → Nat := fun k => if k = i then j else if k = j then i else k
  refine Pm.of_map s s ?_ ?_ ?_ ?_ ?_ ?_
  all_goals (intro k; (try simp only [s, swpf]); intros; grind)
theorem Pm.rot (f : Nat → α) {m : Nat} (h1 : a ≤ m) (h2 : m ≤ b) : Pm a b f (rotf f a m b) := by
  refine Pm.of_map (fun k => if a ≤ k ∧ k < a + (b - m) then k + (m - a) else if a + (b - m) ≤ k ∧ k < b then k - (b - m) else k) (fun k => if a ≤ k ∧ k < m then k + (b - m) else if m ≤ k ∧ k < b then k - (m - a) else k) ?_ ?_ ?_ ?_ ?_ ?_
  all_goals (intro k; (try simp only [rotf]); intros; grind)
end

end Go.Proofs.YtkpiioiahdcpjaaDoor

/- insertionSort. -/
namespace Go.Proofs.YtkpiioiahdcpjaaDoor
open Go.RowKit

theorem ins_go {α : Type} {lt : α → α → Bool} (O : OrdOk lt) {f : Nat → α} {a i j : Nat} (h : ∀ x y, a ≤ x → x < y → y ≤ i → y ≠ j → lt (f y) (f x) = false) (hja : a < j) (hji : j ≤ i) (hlt : lt (f j) (f (j - 1)) = true) :
    ∀ x y, a ≤ x → x < y → y ≤ i → y ≠ j - 1 → lt (swpf f j (j - 1) y) (swpf f j (j - 1) x) = false := by
  intro x y h1 h2 h3 h4
  have hle := O.asym _ _ hlt
  unfold swpf
  by_cases hy : y = j
  · rw [if_pos hy]
    by_cases hx : x = j - 1
    · rw [if_neg (by omega), if_pos hx]; exact hle
    · rw [if_neg (by omega), if_neg hx]; exact h x (j - 1) h1 (by omega) (by omega) (by omega)
  · rw [if_neg hy, if_neg (by omega)]
    by_cases hx : x = j
    · rw [if_pos hx]; exact h (j - 1) y (by omega) (by omega) h3 hy
    · rw [if_neg hx]
      by_cases hx1 : x = j - 1
      · rw [if_pos hx1]; exact h j y (by omega) (by omega) h3 hy
      · rw [if_neg hx1]; exact h x y h1 h2 h3 hy
theorem ins_stop {α : Type} {lt : α → α → Bool} (O : OrdOk lt) {f : Nat → α} {a i j : Nat} (h : ∀ x y, a ≤ x → x < y → y ≤ i → y ≠ j → lt (f y) (f x) = false) (hs : j ≤ a ∨ (a < j ∧ lt (f j) (f (j - 1)) = false)) : Srtd lt f a (i + 1) := by
  intro x y h1 h2 h3
  by_cases hy : y = j
  · subst hy
    rcases hs with hs | ⟨hs, hl⟩
    · omega
    · by_cases hx : x = y - 1
      · subst hx; exact hl
      · exact O.ltr _ _ _ (h x (y - 1) h1 (by omega) (by omega) (by omega)) hl
  · exact h x y h1 h2 (by omega) hy

set_option maxHeartbeats 1600000 in
set_option maxRecDepth 100000 in
theorem insertion_any {n : Nat} {α : Type} {lt : α → α → Bool} {g : Nat} {lb : Array Value} {sf : Nat} {sb : Array Value} {Row : World → (Nat → α) → Prop} {S : Nat → Prop} (C : Srt n lt g lb sf sb Row S) (O : OrdOk lt) (eg : ∀ args w, (callFunc g args).run Tryd.prog w = .ok (.enter g args) w)
    (w : World) (f : Nat → α) (a b : Nat) (hr : Row w f) (hab : a ≤ b) (hbn : b ≤ n) :
    Calls Tryd.prog 45 #[.agg #[.func (.func g) #[] lb, .func (.func sf) #[] sb], .int .i64 a, .int .i64 b] w fun e w' => e = .returned (.tuple #[]) ∧ ∃ f', Row w' f' ∧ Pm a b f f' ∧ Srtd lt f' a b ∧ Mod S w w' := by
  have HC := Lib.hid C
  have HO := Lib.hid O
  have HR := Lib.hid hr
  have hn := C.small
  have hS : Hid (∀ x, S x → x ≠ w.heap.size) := fun x hx => by have := C.old w f hr x hx; omega
  clear C hr O
  go_enter Tryd.func45, Tryd.ntmps45
  go_wp2_with fail
  go_loopg [6] (b + 1 - (a + 1)) (fun kq v6 wr => ∃ i : Nat, v6 = .int .i64 i ∧ a < i ∧ i ≤ b + 1 ∧ Hid (kq = b + 1 - i ∧ (i ≤ b ∨ i = a + 1) ∧ (∃ f', Row wr f' ∧ Pm a b f f' ∧ Srtd lt f' a i) ∧ Mod S w wr ∧ Blk wr w.heap.size 77 #[.func (.func g) #[] lb, .func (.func sf) #[] sb]))
  case atStart =>
    have hm := (Mod.refl Nowhere w).alloc (.cells #[.func (.func g) #[] lb, .func (.func sf) #[] sb] 77)
    exact ⟨a + 1, by go_num, by omega, by omega, rfl, .inr rfl, ⟨f, HC.out.keep _ _ _ HR.out hm, Pm.refl _ _ _, fun x y h1 h2 h3 => by omega⟩, hm.any _, Blk.new w 77 _⟩
  case round =>
    obtain ⟨i, rfl, hai, hib, H⟩ := hrel
    obtain ⟨hkq, hor, ⟨f1, hrow, hpm, hso⟩, hm, hblk⟩ := H.out
    have HKQ := Lib.hid hkq
    have HOR := Lib.hid hor
    have HROW := Lib.hid hrow
    have HPM := Lib.hid hpm
    have HSO := Lib.hid hso
    have HM := Lib.hid hm
    have HB := Lib.hid hblk
    clear H hkq hor hrow hpm hso hm hblk
    by_cases hlt : i < b
    · go_wp2_with fail
      obtain ⟨gk0, hgk0⟩ : ∃ x, x = gk := ⟨_, rfl⟩
      subst hgk0
      go_loopg [7] i (fun kq v7 wr => ∃ j : Nat, v7 = .int .i64 j ∧ a ≤ j ∧ j ≤ i ∧ Hid (kq = j ∧ (∃ f', Row wr f' ∧ Pm a b f f' ∧ ∀ x y, a ≤ x → x < y → y ≤ i → y ≠ j → lt (f' y) (f' x) = false) ∧ Mod S w wr ∧ Blk wr w.heap.size 77 #[.func (.func g) #[] lb, .func (.func sf) #[] sb]))
      case atStart => exact ⟨i, rfl, by omega, Nat.le_refl _, rfl, ⟨f1, HROW.out, HPM.out, fun x y h1 h2 h3 h4 => HSO.out x y h1 h2 (by omega)⟩, HM.out, HB.out⟩
      case round =>
        clear HROW HPM HSO HM HB
        obtain ⟨j, rfl, haj, hji, H⟩ := hrel
        obtain ⟨hkq, ⟨f2, hrow, hpm, hso⟩, hm, hblk⟩ := H.out
        have HKQ2 := Lib.hid hkq
        have HROW := Lib.hid hrow
        have HPM := Lib.hid hpm
        have HSO := Lib.hid hso
        have HM := Lib.hid hm
        have HB := Lib.hid hblk
        have x0 := hblk.cell 0
        have x1 := hblk.cell 1
        simp only [List.getElem?_toArray, List.getElem?_cons_zero, List.getElem?_cons_succ] at x0 x1
        clear H hkq hrow hpm hso hm hblk
        by_cases hja : a < j
        · have d1 : ((j : Int) - 1) = ((j - 1 : Nat) : Int) := by omega
          have hl := HC.out.less wr f2 j (j - 1) HROW.out (by omega) (by omega)
          cases hlv : lt (f2 j) (f2 (j - 1)) with
          | true =>
            rw [hlv] at hl
            go_wp2_with (go_at_fn g; refine hl.mono ?_; rintro e w2 ⟨rfl, hm2⟩; have x1b := hm2.keeps x1 (fun h => h); have HM2 := Lib.hid hm2; clear hm2)
            obtain ⟨w3, hrun, hrow3, hm3⟩ := HC.out.swap w2 f2 j (j - 1) (HC.out.keep _ _ _ HROW.out HM2.out) (by omega) (by omega)
            have HROW3 := Lib.hid hrow3
            have HM3 := Lib.hid ((HM.out.then HM2.out).trans hm3 fun _ _ h => h)
            have HB3 := Lib.hid ((HB.out.keep HM2.out (fun h => h)).keep hm3 (fun h => hS.out _ h rfl))
            clear hrow3 hm3 x1b hl
            rw [hrun, Oper.upon_value]
            clear hrun
            go_wp2_with fail
            go_roundg (j - 1)
            case measure => have := HKQ2.out; omega
            case rel =>
              refine ⟨j - 1, by first | rfl | go_num, by omega, by omega, rfl, ⟨_, HROW3.out, HPM.out.trans (Pm.swap f2 (by omega) (by omega) (by omega) (by omega)), ?_⟩, HM3.out, HB3.out⟩
              exact ins_go HO.out HSO.out (by omega) hji hlv
          | false =>
            rw [hlv] at hl
            go_wp2_with (go_at_fn g; refine hl.mono ?_; rintro e w2 ⟨rfl, hm2⟩; have HM2 := Lib.hid hm2; clear hm2)
            go_roundg (b + 1 - (i + 1))
            case measure => have := HKQ.out; omega
            case rel =>
              exact ⟨i + 1, by go_num, by omega, by omega, rfl, .inl (by omega), ⟨f2, HC.out.keep _ _ _ HROW.out HM2.out, HPM.out, ins_stop HO.out HSO.out (.inr ⟨hja, hlv⟩)⟩, HM.out.then HM2.out, HB.out.keep HM2.out (fun h => h)⟩
        · have t1 : decide ((j : Int) > (a : Int)) = false := by rw [decide_eq_false_iff_not]; omega
          go_wp2_with fail
          go_roundg (b + 1 - (i + 1))
          case measure => have := HKQ.out; omega
          case rel =>
            exact ⟨i + 1, by go_num, by omega, by omega, rfl, .inl (by omega), ⟨f2, HROW.out, HPM.out, ins_stop HO.out HSO.out (.inl (by omega))⟩, HM.out, HB.out⟩
    · have hend : decide (i < b) = false := by simp; omega
      go_wp2_with fail
      go_end0
      refine ⟨rfl, f1, HROW.out, HPM.out, ?_, HM.out⟩
      intro x y h1 h2 h3
      exact HSO.out x y h1 h2 (by omega)
end Go.Proofs.YtkpiioiahdcpjaaDoor
