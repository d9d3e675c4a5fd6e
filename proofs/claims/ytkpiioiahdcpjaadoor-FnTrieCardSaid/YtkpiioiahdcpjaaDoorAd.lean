/- The guards on sizes. -/
import Derived.Test.YtkpiioiahdcpjaaDoorAc
namespace Go.Proofs.YtkpiioiahdcpjaaDoor
open Go.RowKit

/-- The list's slice: where it is not empty it lies at lb, lo. -/
structure ListAt (w : World) (v : Value) (lb lo : Nat) (L : List Exp) : Prop where
  val : ∃ A c, v = .slice A L.length c ∧ (0 < L.length → A = some ⟨lb, lo, none⟩)
  at' : ExpsAt w lb lo L
theorem ListAt.then {w w' : World} {v : Value} {lb lo : Nat} {L : List Exp} (h : ListAt w v lb lo L) (hm : Mod Nowhere w w') : ListAt w' v lb lo L := ⟨h.val, h.at'.then hm⟩

def ExpVal (e : Exp) : Value := .agg #[.string e.name, .int .u64 e.flags, .int .u64 e.address, .int .u64 e.other, .string e.imp]

set_option maxHeartbeats 800000 in
set_option maxRecDepth 100000 in
theorem fits2_any (w : World) (e : Exp) : Calls Tryd.prog 10 #[ExpVal e] w fun en w' => ∃ b, en = .returned (.bool b) ∧ (b = true → e.name.size ≤ 2147483647 ∧ e.imp.size ≤ 2147483647) ∧ Mod Nowhere w w' := by
  unfold ExpVal
  by_cases h1 : e.name.size ≤ 2147483647
  · have d1 : decide ((e.name.size : Int) > 2147483647) = false := by rw [decide_eq_false_iff_not]; omega
    by_cases h2 : e.imp.size ≤ 2147483647
    · have d2 : decide ((e.imp.size : Int) > 2147483647) = false := by rw [decide_eq_false_iff_not]; omega
      go_enter Tryd.func10, Tryd.ntmps10
      go_wp2_with fail
      go_ret
      exact ⟨true, rfl, fun _ => ⟨h1, h2⟩, (Mod.refl _ _).alloc _⟩
    · have d2 : decide ((e.imp.size : Int) > 2147483647) = true := by rw [decide_eq_true_iff]; omega
      go_enter Tryd.func10, Tryd.ntmps10
      go_wp2_with fail
      go_ret
      exact ⟨false, rfl, fun h => (by cases h), (Mod.refl _ _).alloc _⟩
  · have d1 : decide ((e.name.size : Int) > 2147483647) = true := by rw [decide_eq_true_iff]; omega
    go_enter Tryd.func10, Tryd.ntmps10
    go_wp2_with fail
    go_ret
    exact ⟨false, rfl, fun h => (by cases h), (Mod.refl _ _).alloc _⟩

set_option maxHeartbeats 1600000 in
set_option maxRecDepth 100000 in
theorem fits1_any (w : World) (v : Value) (lb lo : Nat) (L : List Exp) (h : ListAt w v lb lo L) :
    Calls Tryd.prog 4 #[v] w fun en w' => ∃ b, en = .returned (.bool b) ∧ (b = true → L.length ≤ 2147483647 ∧ ∀ e ∈ L, e.name.size ≤ 2147483647 ∧ e.imp.size ≤ 2147483647) ∧ Mod Nowhere w w' := by
  obtain ⟨A, c, rfl, hA⟩ := h.val
  have H := Lib.hid h.at'
  have HA := Lib.hid hA
  clear h hA
  by_cases h1 : L.length ≤ 2147483647
  · have d1 : decide ((L.length : Int) > 2147483647) = false := by rw [decide_eq_false_iff_not]; omega
    go_enter Tryd.func4, Tryd.ntmps4
    go_wp2_with fail
    go_loopg [10] L.length (fun kq v10 wr => ∃ k : Nat, v10 = .int .i64 k ∧ k ≤ 2147483647 ∧ Hid (kq = L.length - k ∧ k ≤ L.length ∧ (∀ e ∈ L.take k, e.name.size ≤ 2147483647 ∧ e.imp.size ≤ 2147483647) ∧ Mod Nowhere w wr))
    case atStart => exact ⟨0, rfl, by omega, rfl, Nat.zero_le _, by simp, Mod.refl _ _⟩
    case round =>
      obtain ⟨k, rfl, hk3, HH⟩ := hrel
      have HKQ := Lib.hid HH.out.1
      have HKL := Lib.hid HH.out.2.1
      have HT := Lib.hid HH.out.2.2.1
      have HM := Lib.hid HH.out.2.2.2
      clear HH
      by_cases hlt : k < L.length
      · have hcap : A = some ⟨lb, lo, none⟩ := HA.out (by omega)
        subst hcap
        obtain ⟨e, he⟩ : ∃ e, L[k]? = some e := ⟨_, List.getElem?_eq_getElem hlt⟩
        obtain ⟨x0, x1, x2, x3, x4⟩ := (H.out.then HM.out) k e he
        have HE := Lib.hid he
        clear he
        go_wp2_with fail
        have M5 : Hid (Mod Nowhere w (wr.alloc (.cells #[.string e.name, .int .u64 e.flags, .int .u64 e.address, .int .u64 e.other, .string e.imp] 34))) := HM.out.alloc _
        clear x0 x1 x2 x3 x4
        refine (fits2_any _ e).mono ?_
        rintro en w6 ⟨b, rfl, hb, hm6⟩
        have HB := Lib.hid hb
        have M6 := Lib.hid (M5.out.then hm6)
        clear hb hm6
        cases b with
        | false =>
          go_wp2_with fail
          go_ret
          exact ⟨false, rfl, fun h => (by cases h), M6.out⟩
        | true =>
          go_wp2_with fail
          go_roundg (L.length - (k + 1))
          case measure => have := HKQ.out; omega
          case rel =>
            refine ⟨k + 1, by go_num, by omega, rfl, hlt, ?_, M6.out⟩
            intro x hx
            rw [List.take_add_one, HE.out, List.mem_append] at hx
            rcases hx with hx | hx
            · exact HT.out x hx
            · simp only [Option.toList_some, List.mem_singleton] at hx
              subst hx
              exact HB.out (by trivial)
      · have hend : decide (k < L.length) = false := by simp; omega
        have hke : k = L.length := by have := HKL.out; omega
        go_wp2_with fail
        go_ret
        refine ⟨true, rfl, fun _ => ⟨h1, ?_⟩, HM.out⟩
        have := HT.out
        rwa [hke, List.take_length] at this
  · have d1 : decide ((L.length : Int) > 2147483647) = true := by rw [decide_eq_true_iff]; omega
    go_enter Tryd.func4, Tryd.ntmps4
    go_wp2_with fail
    go_ret
    exact ⟨false, rfl, fun h => (by cases h), Mod.refl _ _⟩

end Go.Proofs.YtkpiioiahdcpjaaDoor
