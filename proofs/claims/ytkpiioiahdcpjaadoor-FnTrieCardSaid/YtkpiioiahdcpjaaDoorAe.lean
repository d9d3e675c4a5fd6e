/- The walk of spec.Exported. -/
import Derived.Test.YtkpiioiahdcpjaaDoorAd
import Derived.Test.YtkpiioiahdcpjaaDoorI
import Derived.Carry
namespace Go.Proofs.YtkpiioiahdcpjaaDoor
open Go.RowKit

/-- An export that may be written. -/
structure Good (e : Exp) : Prop where
  name : PlainOk e.name
  len : e.name.size ≤ 60
  fl : e.flags ≤ 31
  kind : e.flags &&& 3 ≠ 3
  both : ¬ (e.flags &&& 8 ≠ 0 ∧ e.flags &&& 16 ≠ 0)
  abs : ¬ (e.flags &&& 3 = 2 ∧ e.flags &&& 16 ≠ 0)
  re : e.flags &&& 8 ≠ 0 → e.address = 0 ∧ e.other ≤ 1000 ∧ (e.imp.toList.isEmpty = false → PlainOk e.imp) ∧ e.imp.size ≤ 60
  own : e.flags &&& 8 = 0 → e.imp.toList.isEmpty = true ∧ (e.flags &&& 16 = 0 → e.other = 0) ∧ e.address ≤ 281474976710656 ∧ e.other ≤ 281474976710656

def GoodL (L : List Exp) : Prop := L.length ≤ 60 ∧ (texts L).Nodup ∧ ∀ e ∈ L, Good e

theorem texts_snoc {L : List Exp} {k : Nat} {e : Exp} (h : L[k]? = some e) : texts (L.take (k + 1)) = texts (L.take k) ++ [e.name.data.toList] := by
  unfold texts
  rw [List.take_add_one, h, List.map_append]; rfl
theorem nodup_snoc {l : List (List UInt8)} {x : List UInt8} (h : l.Nodup) (hx : x ∉ l) : (l ++ [x]).Nodup := by
  rw [List.nodup_append]
  refine ⟨h, by simp, fun a ha b hb e => ?_⟩
  simp only [List.mem_singleton] at hb
  subst hb; subst e
  exact hx ha
theorem size_of_empty {s : ByteArray} (h : s.toList.isEmpty = true) : s.size = 0 := by
  have := nil_of h
  have h2 := congrArg List.length this
  simpa using h2

set_option maxHeartbeats 6400000 in
set_option maxRecDepth 100000 in
theorem exported_any (w : World) (v : Value) (lb lo : Nat) (L : List Exp) (h : ListAt w v lb lo L) (hsz : L.length ≤ 2147483647 ∧ ∀ e ∈ L, e.name.size ≤ 2147483647 ∧ e.imp.size ≤ 2147483647) :
    Calls Tryd.prog 5 #[v] w fun en w' => ∃ b, en = .returned (.bool b) ∧ (b = true → GoodL L) ∧ Mod Nowhere w w' := by
  obtain ⟨A, c, rfl, hA⟩ := h.val
  have H := Lib.hid h.at'
  have HA := Lib.hid hA
  have HSZ := Lib.hid hsz
  clear h hA hsz
  by_cases h1 : L.length ≤ 60
  · have d1 : decide ((L.length : Int) > 60) = false := by rw [decide_eq_false_iff_not]; omega
    have hmm := @run_makeMap Tryd.prog
    have HS0 : Hid (Seen (w.alloc (.map #[] 0)) w.heap.size 0 []) := Seen.new w
    go_enter Tryd.func5, Tryd.ntmps5
    go_wp2_with fail
    go_loopg [12] L.length (fun kq v12 wr => ∃ k : Nat, v12 = .int .i64 k ∧ k ≤ 60 ∧ Hid (kq = L.length - k ∧ k ≤ L.length ∧ Seen wr w.heap.size k (texts (L.take k)).reverse ∧ (texts (L.take k)).Nodup ∧ (∀ e ∈ L.take k, Good e) ∧ Mod Nowhere w wr))
    case atStart => exact ⟨0, rfl, by omega, rfl, Nat.zero_le _, HS0.out, by simp [texts], by simp, (Mod.refl _ _).alloc _⟩
    case round =>
      clear HS0 hmm
      obtain ⟨k, rfl, hk3, HH⟩ := hrel
      have HKQ := Lib.hid HH.out.1
      have HKL := Lib.hid HH.out.2.1
      have HSEEN := Lib.hid HH.out.2.2.1
      have HND := Lib.hid HH.out.2.2.2.1
      have HG := Lib.hid HH.out.2.2.2.2.1
      have HM := Lib.hid HH.out.2.2.2.2.2
      clear HH
      by_cases hlt : k < L.length
      · have hcap : A = some ⟨lb, lo, none⟩ := HA.out (by omega)
        subst hcap
        obtain ⟨e, he⟩ : ∃ e, L[k]? = some e := ⟨_, List.getElem?_eq_getElem hlt⟩
        obtain ⟨x0, x1, x2, x3, x4⟩ := (H.out.then HM.out) k e he
        obtain ⟨hns, his⟩ := HSZ.out.2 e (List.mem_of_getElem? he)
        have HE := Lib.hid he
        have hmb : w.heap.size < wr.heap.size := by
          obtain ⟨D, hD, _⟩ := HSEEN.out
          exact hD.lt
        clear he
        go_wp2_with fail
        have M5 : Hid (Mod Nowhere w (wr.alloc (.cells #[.string e.name, .int .u64 e.flags, .int .u64 e.address, .int .u64 e.other, .string e.imp] 34))) := HM.out.alloc _
        have S5 : Hid (Seen (wr.alloc (.cells #[.string e.name, .int .u64 e.flags, .int .u64 e.address, .int .u64 e.other, .string e.imp] 34)) w.heap.size k (texts (L.take k)).reverse) := HSEEN.out.keep ((Mod.refl Nowhere wr).alloc _) (fun h => h)
        have B5 : Hid (Blk (wr.alloc (.cells #[.string e.name, .int .u64 e.flags, .int .u64 e.address, .int .u64 e.other, .string e.imp] 34)) wr.heap.size 34 #[.string e.name, .int .u64 e.flags, .int .u64 e.address, .int .u64 e.other, .string e.imp]) := Blk.new wr 34 _
        clear x0 x1 x2 x3 x4
        generalize wr.alloc (.cells #[.string e.name, .int .u64 e.flags, .int .u64 e.address, .int .u64 e.other, .string e.imp] 34) = w5 at *
        generalize hlc : wr.heap.size = lc at *
        refine (plain_any w5 e.name (by simp only [maxLen]; omega)).mono ?_
        rintro en w6 ⟨b1, rfl, hb1, hm6⟩
        have HB1 := Lib.hid hb1
        have M6 := Lib.hid (M5.out.then hm6)
        have S6 := Lib.hid (S5.out.keep hm6 (fun h => h))
        have B6 := Lib.hid (B5.out.keep hm6 (fun h => h))
        clear hb1 hm6
        have y0 := B6.out.cell 0
        have y1 := B6.out.cell 1
        have y2 := B6.out.cell 2
        have y3 := B6.out.cell 3
        have y4 := B6.out.cell 4
        simp only [List.getElem?_toArray, List.getElem?_cons_zero, List.getElem?_cons_succ] at y0 y1 y2 y3 y4
        have hlook := S6.out.look e.name (by simp only [maxLen]; omega)
        cases b1 with
        | false =>
          go_wp2_with fail
          go_ret
          exact ⟨false, rfl, fun h => (by cases h), M6.out⟩
        | true =>
          by_cases h2 : e.name.size > 60
          · have d2 : decide ((e.name.size : Int) > 60) = true := by rw [decide_eq_true_iff]; omega
            go_wp2_with fail
            go_ret
            exact ⟨false, rfl, fun h => (by cases h), M6.out⟩
          · have d2 : decide ((e.name.size : Int) > 60) = false := by rw [decide_eq_false_iff_not]; omega
            by_cases h3 : e.name.data.toList ∈ (texts (L.take k)).reverse
            · rw [decide_eq_true h3] at hlook
              go_wp2_with fail
              go_ret
              exact ⟨false, rfl, fun h => (by cases h), M6.out⟩
            · rw [decide_eq_false h3] at hlook
              by_cases h4 : e.flags > 31
              · have d4 : decide ((e.flags : Int) > 31) = true := by rw [decide_eq_true_iff]; omega
                go_wp2_with fail
                go_ret
                exact ⟨false, rfl, fun h => (by cases h), M6.out⟩
              · have d4 : decide ((e.flags : Int) > 31) = false := by rw [decide_eq_false_iff_not]; omega
                have a3 : bits .and .u64 (e.flags : Int) 3 = ((e.flags &&& 3 : Nat) : Int) := and_u64 e.flags 3 (by omega) (by omega)
                have a8 : bits .and .u64 (e.flags : Int) 8 = ((e.flags &&& 8 : Nat) : Int) := and_u64 e.flags 8 (by omega) (by omega)
                have a16 : bits .and .u64 (e.flags : Int) 16 = ((e.flags &&& 16 : Nat) : Int) := and_u64 e.flags 16 (by omega) (by omega)
                by_cases h5 : e.flags &&& 3 = 3
                · have d5 : (bits .and .u64 (e.flags : Int) 3 == 3) = true := by rw [a3]; rw [beq_iff_eq]; omega
                  clear a3 a8 a16
                  go_wp2_with fail
                  go_ret
                  exact ⟨false, rfl, fun h => (by cases h), M6.out⟩
                · have d5 : (bits .and .u64 (e.flags : Int) 3 == 3) = false := by rw [a3]; rw [beq_eq_false_iff_ne]; omega
                  by_cases h8 : e.flags &&& 8 = 0
                  · have d8 : (bits .and .u64 (e.flags : Int) 8 != 0) = false := by rw [a8]; rw [bne_eq_false_iff_eq]; omega
                    by_cases h16 : e.flags &&& 16 = 0
                    · have d16 : (bits .and .u64 (e.flags : Int) 16 != 0) = false := by rw [a16]; rw [bne_eq_false_iff_eq]; omega
                      by_cases h2k : e.flags &&& 3 = 2
                      · have d2k : (bits .and .u64 (e.flags : Int) 3 == 2) = true := by rw [a3]; rw [beq_iff_eq]; omega
                        cases hemp : e.imp.toList.isEmpty with
                        | false =>
                          go_wp2_with (at_mapUpdate; (refine ev_seen rfl (.tmp 67) (.tmp 69) _ rfl w.heap.size k (texts (L.take k)).reverse rfl S6.out (by simp only [maxLen]; omega) e.name (by simp only [maxLen]; omega) rfl rfl ?_; intro w7 hA hB; have S7 := Lib.hid hA; have B7 := Lib.hid (B6.out.keep hB (fun e => by omega)); have M7 : Hid (Mod Nowhere w w7) := M6.out.trans hB (fun x hx e => by omega); have z0 := B7.out.cell 0; have z1 := B7.out.cell 1; have z2 := B7.out.cell 2; have z3 := B7.out.cell 3; have z4 := B7.out.cell 4; simp only [List.getElem?_toArray, List.getElem?_cons_zero, List.getElem?_cons_succ] at z0 z1 z2 z3 z4; clear hA hB y0 y1 y2 y3 y4))
                          go_ret
                          exact ⟨false, rfl, fun h => (by cases h), M7.out⟩
                        | true =>
                          have d13 : (bits .and .u64 (e.flags : Int) 16 == 0) = true := by rw [a16]; rw [beq_iff_eq]; omega
                          by_cases h10 : e.other = 0
                          · have d10 : ((e.other : Int) != 0) = false := by rw [bne_eq_false_iff_eq]; omega
                            by_cases h11 : e.address > 281474976710656
                            · have d11 : decide ((e.address : Int) > 281474976710656) = true := by rw [decide_eq_true_iff]; omega
                              go_wp2_with (at_mapUpdate; (refine ev_seen rfl (.tmp 67) (.tmp 69) _ rfl w.heap.size k (texts (L.take k)).reverse rfl S6.out (by simp only [maxLen]; omega) e.name (by simp only [maxLen]; omega) rfl rfl ?_; intro w7 hA hB; have S7 := Lib.hid hA; have B7 := Lib.hid (B6.out.keep hB (fun e => by omega)); have M7 : Hid (Mod Nowhere w w7) := M6.out.trans hB (fun x hx e => by omega); have z0 := B7.out.cell 0; have z1 := B7.out.cell 1; have z2 := B7.out.cell 2; have z3 := B7.out.cell 3; have z4 := B7.out.cell 4; simp only [List.getElem?_toArray, List.getElem?_cons_zero, List.getElem?_cons_succ] at z0 z1 z2 z3 z4; clear hA hB y0 y1 y2 y3 y4))
                              go_ret
                              exact ⟨false, rfl, fun h => (by cases h), M7.out⟩
                            · have d11 : decide ((e.address : Int) > 281474976710656) = false := by rw [decide_eq_false_iff_not]; omega
                              have d12 : decide ((e.other : Int) > 281474976710656) = false := by rw [decide_eq_false_iff_not]; omega
                              have hG : Hid (Good e) := ⟨HB1.out (by trivial), by omega, by omega, h5, (by intro h; omega), (by intro h; omega), (fun h => absurd h8 h), (fun _ => ⟨hemp, by intro h; omega, by omega, by omega⟩)⟩
                              go_wp2_with (at_mapUpdate; (refine ev_seen rfl (.tmp 67) (.tmp 69) _ rfl w.heap.size k (texts (L.take k)).reverse rfl S6.out (by simp only [maxLen]; omega) e.name (by simp only [maxLen]; omega) rfl rfl ?_; intro w7 hA hB; have S7 := Lib.hid hA; have B7 := Lib.hid (B6.out.keep hB (fun e => by omega)); have M7 : Hid (Mod Nowhere w w7) := M6.out.trans hB (fun x hx e => by omega); have z0 := B7.out.cell 0; have z1 := B7.out.cell 1; have z2 := B7.out.cell 2; have z3 := B7.out.cell 3; have z4 := B7.out.cell 4; simp only [List.getElem?_toArray, List.getElem?_cons_zero, List.getElem?_cons_succ] at z0 z1 z2 z3 z4; clear hA hB y0 y1 y2 y3 y4))
                              go_roundg (L.length - (k + 1))
                              case measure => have := HKQ.out; omega
                              case rel =>
                                refine ⟨k + 1, by go_num, by omega, rfl, hlt, ?_, ?_, ?_, M7.out⟩
                                · rw [texts_snoc HE.out, List.reverse_append]; exact S7.out
                                · rw [texts_snoc HE.out]
                                  exact nodup_snoc HND.out (fun hm => h3 (List.mem_reverse.2 hm))
                                · intro x hx
                                  rw [List.take_add_one, HE.out, List.mem_append] at hx
                                  rcases hx with hx | hx
                                  · exact HG.out x hx
                                  · simp only [Option.toList_some, List.mem_singleton] at hx
                                    subst hx
                                    exact hG.out
                          · have d10 : ((e.other : Int) != 0) = true := by rw [bne_iff_ne]; omega
                            go_wp2_with (at_mapUpdate; (refine ev_seen rfl (.tmp 67) (.tmp 69) _ rfl w.heap.size k (texts (L.take k)).reverse rfl S6.out (by simp only [maxLen]; omega) e.name (by simp only [maxLen]; omega) rfl rfl ?_; intro w7 hA hB; have S7 := Lib.hid hA; have B7 := Lib.hid (B6.out.keep hB (fun e => by omega)); have M7 : Hid (Mod Nowhere w w7) := M6.out.trans hB (fun x hx e => by omega); have z0 := B7.out.cell 0; have z1 := B7.out.cell 1; have z2 := B7.out.cell 2; have z3 := B7.out.cell 3; have z4 := B7.out.cell 4; simp only [List.getElem?_toArray, List.getElem?_cons_zero, List.getElem?_cons_succ] at z0 z1 z2 z3 z4; clear hA hB y0 y1 y2 y3 y4))
                            go_ret
                            exact ⟨false, rfl, fun h => (by cases h), M7.out⟩
                      · have d2k : (bits .and .u64 (e.flags : Int) 3 == 2) = false := by rw [a3]; rw [beq_eq_false_iff_ne]; omega
                        cases hemp : e.imp.toList.isEmpty with
                        | false =>
                          go_wp2_with (at_mapUpdate; (refine ev_seen rfl (.tmp 67) (.tmp 69) _ rfl w.heap.size k (texts (L.take k)).reverse rfl S6.out (by simp only [maxLen]; omega) e.name (by simp only [maxLen]; omega) rfl rfl ?_; intro w7 hA hB; have S7 := Lib.hid hA; have B7 := Lib.hid (B6.out.keep hB (fun e => by omega)); have M7 : Hid (Mod Nowhere w w7) := M6.out.trans hB (fun x hx e => by omega); have z0 := B7.out.cell 0; have z1 := B7.out.cell 1; have z2 := B7.out.cell 2; have z3 := B7.out.cell 3; have z4 := B7.out.cell 4; simp only [List.getElem?_toArray, List.getElem?_cons_zero, List.getElem?_cons_succ] at z0 z1 z2 z3 z4; clear hA hB y0 y1 y2 y3 y4))
                          go_ret
                          exact ⟨false, rfl, fun h => (by cases h), M7.out⟩
                        | true =>
                          have d13 : (bits .and .u64 (e.flags : Int) 16 == 0) = true := by rw [a16]; rw [beq_iff_eq]; omega
                          by_cases h10 : e.other = 0
                          · have d10 : ((e.other : Int) != 0) = false := by rw [bne_eq_false_iff_eq]; omega
                            by_cases h11 : e.address > 281474976710656
                            · have d11 : decide ((e.address : Int) > 281474976710656) = true := by rw [decide_eq_true_iff]; omega
                              go_wp2_with (at_mapUpdate; (refine ev_seen rfl (.tmp 67) (.tmp 69) _ rfl w.heap.size k (texts (L.take k)).reverse rfl S6.out (by simp only [maxLen]; omega) e.name (by simp only [maxLen]; omega) rfl rfl ?_; intro w7 hA hB; have S7 := Lib.hid hA; have B7 := Lib.hid (B6.out.keep hB (fun e => by omega)); have M7 : Hid (Mod Nowhere w w7) := M6.out.trans hB (fun x hx e => by omega); have z0 := B7.out.cell 0; have z1 := B7.out.cell 1; have z2 := B7.out.cell 2; have z3 := B7.out.cell 3; have z4 := B7.out.cell 4; simp only [List.getElem?_toArray, List.getElem?_cons_zero, List.getElem?_cons_succ] at z0 z1 z2 z3 z4; clear hA hB y0 y1 y2 y3 y4))
                              go_ret
                              exact ⟨false, rfl, fun h => (by cases h), M7.out⟩
                            · have d11 : decide ((e.address : Int) > 281474976710656) = false := by rw [decide_eq_false_iff_not]; omega
                              have d12 : decide ((e.other : Int) > 281474976710656) = false := by rw [decide_eq_false_iff_not]; omega
                              have hG : Hid (Good e) := ⟨HB1.out (by trivial), by omega, by omega, h5, (by intro h; omega), (by intro h; omega), (fun h => absurd h8 h), (fun _ => ⟨hemp, by intro h; omega, by omega, by omega⟩)⟩
                              go_wp2_with (at_mapUpdate; (refine ev_seen rfl (.tmp 67) (.tmp 69) _ rfl w.heap.size k (texts (L.take k)).reverse rfl S6.out (by simp only [maxLen]; omega) e.name (by simp only [maxLen]; omega) rfl rfl ?_; intro w7 hA hB; have S7 := Lib.hid hA; have B7 := Lib.hid (B6.out.keep hB (fun e => by omega)); have M7 : Hid (Mod Nowhere w w7) := M6.out.trans hB (fun x hx e => by omega); have z0 := B7.out.cell 0; have z1 := B7.out.cell 1; have z2 := B7.out.cell 2; have z3 := B7.out.cell 3; have z4 := B7.out.cell 4; simp only [List.getElem?_toArray, List.getElem?_cons_zero, List.getElem?_cons_succ] at z0 z1 z2 z3 z4; clear hA hB y0 y1 y2 y3 y4))
                              go_roundg (L.length - (k + 1))
                              case measure => have := HKQ.out; omega
                              case rel =>
                                refine ⟨k + 1, by go_num, by omega, rfl, hlt, ?_, ?_, ?_, M7.out⟩
                                · rw [texts_snoc HE.out, List.reverse_append]; exact S7.out
                                · rw [texts_snoc HE.out]
                                  exact nodup_snoc HND.out (fun hm => h3 (List.mem_reverse.2 hm))
                                · intro x hx
                                  rw [List.take_add_one, HE.out, List.mem_append] at hx
                                  rcases hx with hx | hx
                                  · exact HG.out x hx
                                  · simp only [Option.toList_some, List.mem_singleton] at hx
                                    subst hx
                                    exact hG.out
                          · have d10 : ((e.other : Int) != 0) = true := by rw [bne_iff_ne]; omega
                            go_wp2_with (at_mapUpdate; (refine ev_seen rfl (.tmp 67) (.tmp 69) _ rfl w.heap.size k (texts (L.take k)).reverse rfl S6.out (by simp only [maxLen]; omega) e.name (by simp only [maxLen]; omega) rfl rfl ?_; intro w7 hA hB; have S7 := Lib.hid hA; have B7 := Lib.hid (B6.out.keep hB (fun e => by omega)); have M7 : Hid (Mod Nowhere w w7) := M6.out.trans hB (fun x hx e => by omega); have z0 := B7.out.cell 0; have z1 := B7.out.cell 1; have z2 := B7.out.cell 2; have z3 := B7.out.cell 3; have z4 := B7.out.cell 4; simp only [List.getElem?_toArray, List.getElem?_cons_zero, List.getElem?_cons_succ] at z0 z1 z2 z3 z4; clear hA hB y0 y1 y2 y3 y4))
                            go_ret
                            exact ⟨false, rfl, fun h => (by cases h), M7.out⟩
                    · have d16 : (bits .and .u64 (e.flags : Int) 16 != 0) = true := by rw [a16]; rw [bne_iff_ne]; omega
                      by_cases h2k : e.flags &&& 3 = 2
                      · have d2k : (bits .and .u64 (e.flags : Int) 3 == 2) = true := by rw [a3]; rw [beq_iff_eq]; omega
                        clear a3 a8 a16
                        go_wp2_with fail
                        go_ret
                        exact ⟨false, rfl, fun h => (by cases h), M6.out⟩
                      · have d2k : (bits .and .u64 (e.flags : Int) 3 == 2) = false := by rw [a3]; rw [beq_eq_false_iff_ne]; omega
                        cases hemp : e.imp.toList.isEmpty with
                        | false =>
                          go_wp2_with (at_mapUpdate; (refine ev_seen rfl (.tmp 67) (.tmp 69) _ rfl w.heap.size k (texts (L.take k)).reverse rfl S6.out (by simp only [maxLen]; omega) e.name (by simp only [maxLen]; omega) rfl rfl ?_; intro w7 hA hB; have S7 := Lib.hid hA; have B7 := Lib.hid (B6.out.keep hB (fun e => by omega)); have M7 : Hid (Mod Nowhere w w7) := M6.out.trans hB (fun x hx e => by omega); have z0 := B7.out.cell 0; have z1 := B7.out.cell 1; have z2 := B7.out.cell 2; have z3 := B7.out.cell 3; have z4 := B7.out.cell 4; simp only [List.getElem?_toArray, List.getElem?_cons_zero, List.getElem?_cons_succ] at z0 z1 z2 z3 z4; clear hA hB y0 y1 y2 y3 y4))
                          go_ret
                          exact ⟨false, rfl, fun h => (by cases h), M7.out⟩
                        | true =>
                          have d13 : (bits .and .u64 (e.flags : Int) 16 == 0) = false := by rw [a16]; rw [beq_eq_false_iff_ne]; omega
                          by_cases h11 : e.address > 281474976710656
                          · have d11 : decide ((e.address : Int) > 281474976710656) = true := by rw [decide_eq_true_iff]; omega
                            go_wp2_with (at_mapUpdate; (refine ev_seen rfl (.tmp 67) (.tmp 69) _ rfl w.heap.size k (texts (L.take k)).reverse rfl S6.out (by simp only [maxLen]; omega) e.name (by simp only [maxLen]; omega) rfl rfl ?_; intro w7 hA hB; have S7 := Lib.hid hA; have B7 := Lib.hid (B6.out.keep hB (fun e => by omega)); have M7 : Hid (Mod Nowhere w w7) := M6.out.trans hB (fun x hx e => by omega); have z0 := B7.out.cell 0; have z1 := B7.out.cell 1; have z2 := B7.out.cell 2; have z3 := B7.out.cell 3; have z4 := B7.out.cell 4; simp only [List.getElem?_toArray, List.getElem?_cons_zero, List.getElem?_cons_succ] at z0 z1 z2 z3 z4; clear hA hB y0 y1 y2 y3 y4))
                            go_ret
                            exact ⟨false, rfl, fun h => (by cases h), M7.out⟩
                          · have d11 : decide ((e.address : Int) > 281474976710656) = false := by rw [decide_eq_false_iff_not]; omega
                            by_cases h12 : e.other > 281474976710656
                            · have d12 : decide ((e.other : Int) > 281474976710656) = true := by rw [decide_eq_true_iff]; omega
                              go_wp2_with (at_mapUpdate; (refine ev_seen rfl (.tmp 67) (.tmp 69) _ rfl w.heap.size k (texts (L.take k)).reverse rfl S6.out (by simp only [maxLen]; omega) e.name (by simp only [maxLen]; omega) rfl rfl ?_; intro w7 hA hB; have S7 := Lib.hid hA; have B7 := Lib.hid (B6.out.keep hB (fun e => by omega)); have M7 : Hid (Mod Nowhere w w7) := M6.out.trans hB (fun x hx e => by omega); have z0 := B7.out.cell 0; have z1 := B7.out.cell 1; have z2 := B7.out.cell 2; have z3 := B7.out.cell 3; have z4 := B7.out.cell 4; simp only [List.getElem?_toArray, List.getElem?_cons_zero, List.getElem?_cons_succ] at z0 z1 z2 z3 z4; clear hA hB y0 y1 y2 y3 y4))
                              go_ret
                              exact ⟨false, rfl, fun h => (by cases h), M7.out⟩
                            · have d12 : decide ((e.other : Int) > 281474976710656) = false := by rw [decide_eq_false_iff_not]; omega
                              have hG : Hid (Good e) := ⟨HB1.out (by trivial), by omega, by omega, h5, (by intro h; omega), (by intro h; omega), (fun h => absurd h8 h), (fun _ => ⟨hemp, by intro h; omega, by omega, by omega⟩)⟩
                              go_wp2_with (at_mapUpdate; (refine ev_seen rfl (.tmp 67) (.tmp 69) _ rfl w.heap.size k (texts (L.take k)).reverse rfl S6.out (by simp only [maxLen]; omega) e.name (by simp only [maxLen]; omega) rfl rfl ?_; intro w7 hA hB; have S7 := Lib.hid hA; have B7 := Lib.hid (B6.out.keep hB (fun e => by omega)); have M7 : Hid (Mod Nowhere w w7) := M6.out.trans hB (fun x hx e => by omega); have z0 := B7.out.cell 0; have z1 := B7.out.cell 1; have z2 := B7.out.cell 2; have z3 := B7.out.cell 3; have z4 := B7.out.cell 4; simp only [List.getElem?_toArray, List.getElem?_cons_zero, List.getElem?_cons_succ] at z0 z1 z2 z3 z4; clear hA hB y0 y1 y2 y3 y4))
                              go_roundg (L.length - (k + 1))
                              case measure => have := HKQ.out; omega
                              case rel =>
                                refine ⟨k + 1, by go_num, by omega, rfl, hlt, ?_, ?_, ?_, M7.out⟩
                                · rw [texts_snoc HE.out, List.reverse_append]; exact S7.out
                                · rw [texts_snoc HE.out]
                                  exact nodup_snoc HND.out (fun hm => h3 (List.mem_reverse.2 hm))
                                · intro x hx
                                  rw [List.take_add_one, HE.out, List.mem_append] at hx
                                  rcases hx with hx | hx
                                  · exact HG.out x hx
                                  · simp only [Option.toList_some, List.mem_singleton] at hx
                                    subst hx
                                    exact hG.out
                  · have d8 : (bits .and .u64 (e.flags : Int) 8 != 0) = true := by rw [a8]; rw [bne_iff_ne]; omega
                    by_cases h16 : e.flags &&& 16 = 0
                    · have d16 : (bits .and .u64 (e.flags : Int) 16 != 0) = false := by rw [a16]; rw [bne_eq_false_iff_eq]; omega
                      by_cases h2k : e.flags &&& 3 = 2
                      · have d2k : (bits .and .u64 (e.flags : Int) 3 == 2) = true := by rw [a3]; rw [beq_iff_eq]; omega
                        by_cases h10 : e.address = 0
                        · have d10 : ((e.address : Int) != 0) = false := by rw [bne_eq_false_iff_eq]; omega
                          by_cases h11 : e.other > 1000
                          · have d11 : decide ((e.other : Int) > 1000) = true := by rw [decide_eq_true_iff]; omega
                            go_wp2_with (at_mapUpdate; (refine ev_seen rfl (.tmp 67) (.tmp 69) _ rfl w.heap.size k (texts (L.take k)).reverse rfl S6.out (by simp only [maxLen]; omega) e.name (by simp only [maxLen]; omega) rfl rfl ?_; intro w7 hA hB; have S7 := Lib.hid hA; have B7 := Lib.hid (B6.out.keep hB (fun e => by omega)); have M7 : Hid (Mod Nowhere w w7) := M6.out.trans hB (fun x hx e => by omega); have z0 := B7.out.cell 0; have z1 := B7.out.cell 1; have z2 := B7.out.cell 2; have z3 := B7.out.cell 3; have z4 := B7.out.cell 4; simp only [List.getElem?_toArray, List.getElem?_cons_zero, List.getElem?_cons_succ] at z0 z1 z2 z3 z4; clear hA hB y0 y1 y2 y3 y4))
                            go_ret
                            exact ⟨false, rfl, fun h => (by cases h), M7.out⟩
                          · have d11 : decide ((e.other : Int) > 1000) = false := by rw [decide_eq_false_iff_not]; omega
                            cases hemp : e.imp.toList.isEmpty with
                            | true =>
                              have hi0 : e.imp.size = 0 := size_of_empty hemp
                              have d12 : decide ((e.imp.size : Int) > 60) = false := by rw [decide_eq_false_iff_not]; omega
                              have hG : Hid (Good e) := ⟨HB1.out (by trivial), by omega, by omega, h5, (by intro h; omega), (by intro h; omega), (fun _ => ⟨h10, by omega, fun h => (by cases hemp.symm.trans h), by omega⟩), (fun h => absurd h h8)⟩
                              go_wp2_with (at_mapUpdate; (refine ev_seen rfl (.tmp 67) (.tmp 69) _ rfl w.heap.size k (texts (L.take k)).reverse rfl S6.out (by simp only [maxLen]; omega) e.name (by simp only [maxLen]; omega) rfl rfl ?_; intro w7 hA hB; have S7 := Lib.hid hA; have B7 := Lib.hid (B6.out.keep hB (fun e => by omega)); have M7 : Hid (Mod Nowhere w w7) := M6.out.trans hB (fun x hx e => by omega); have z0 := B7.out.cell 0; have z1 := B7.out.cell 1; have z2 := B7.out.cell 2; have z3 := B7.out.cell 3; have z4 := B7.out.cell 4; simp only [List.getElem?_toArray, List.getElem?_cons_zero, List.getElem?_cons_succ] at z0 z1 z2 z3 z4; clear hA hB y0 y1 y2 y3 y4))
                              go_roundg (L.length - (k + 1))
                              case measure => have := HKQ.out; omega
                              case rel =>
                                refine ⟨k + 1, by go_num, by omega, rfl, hlt, ?_, ?_, ?_, M7.out⟩
                                · rw [texts_snoc HE.out, List.reverse_append]; exact S7.out
                                · rw [texts_snoc HE.out]
                                  exact nodup_snoc HND.out (fun hm => h3 (List.mem_reverse.2 hm))
                                · intro x hx
                                  rw [List.take_add_one, HE.out, List.mem_append] at hx
                                  rcases hx with hx | hx
                                  · exact HG.out x hx
                                  · simp only [Option.toList_some, List.mem_singleton] at hx
                                    subst hx
                                    exact hG.out
                            | false =>
                              go_wp2_with (at_mapUpdate; (refine ev_seen rfl (.tmp 67) (.tmp 69) _ rfl w.heap.size k (texts (L.take k)).reverse rfl S6.out (by simp only [maxLen]; omega) e.name (by simp only [maxLen]; omega) rfl rfl ?_; intro w7 hA hB; have S7 := Lib.hid hA; have B7 := Lib.hid (B6.out.keep hB (fun e => by omega)); have M7 : Hid (Mod Nowhere w w7) := M6.out.trans hB (fun x hx e => by omega); have z0 := B7.out.cell 0; have z1 := B7.out.cell 1; have z2 := B7.out.cell 2; have z3 := B7.out.cell 3; have z4 := B7.out.cell 4; simp only [List.getElem?_toArray, List.getElem?_cons_zero, List.getElem?_cons_succ] at z0 z1 z2 z3 z4; clear hA hB y0 y1 y2 y3 y4))
                              refine (plain_any w7 e.imp (by simp only [maxLen]; omega)).mono ?_
                              rintro en w8 ⟨b2, rfl, hb2, hm8⟩
                              have HB2 := Lib.hid hb2
                              have M8 := Lib.hid (M7.out.then hm8)
                              have S8 := Lib.hid (S7.out.keep hm8 (fun h => h))
                              have B8 := Lib.hid (B7.out.keep hm8 (fun h => h))
                              have u0 := B8.out.cell 0
                              have u1 := B8.out.cell 1
                              have u2 := B8.out.cell 2
                              have u3 := B8.out.cell 3
                              have u4 := B8.out.cell 4
                              simp only [List.getElem?_toArray, List.getElem?_cons_zero, List.getElem?_cons_succ] at u0 u1 u2 u3 u4
                              clear hb2 hm8 z0 z1 z2 z3 z4
                              cases b2 with
                              | false =>
                                go_wp2_with fail
                                go_ret
                                exact ⟨false, rfl, fun h => (by cases h), M8.out⟩
                              | true =>
                                by_cases h13 : e.imp.size > 60
                                · have d12 : decide ((e.imp.size : Int) > 60) = true := by rw [decide_eq_true_iff]; omega
                                  go_wp2_with fail
                                  go_ret
                                  exact ⟨false, rfl, fun h => (by cases h), M8.out⟩
                                · have d12 : decide ((e.imp.size : Int) > 60) = false := by rw [decide_eq_false_iff_not]; omega
                                  have hG : Hid (Good e) := ⟨HB1.out (by trivial), by omega, by omega, h5, (by intro h; omega), (by intro h; omega), (fun _ => ⟨h10, by omega, fun _ => HB2.out (by trivial), by omega⟩), (fun h => absurd h h8)⟩
                                  go_wp2_with fail
                                  go_roundg (L.length - (k + 1))
                                  case measure => have := HKQ.out; omega
                                  case rel =>
                                    refine ⟨k + 1, by go_num, by omega, rfl, hlt, ?_, ?_, ?_, M8.out⟩
                                    · rw [texts_snoc HE.out, List.reverse_append]; exact S8.out
                                    · rw [texts_snoc HE.out]
                                      exact nodup_snoc HND.out (fun hm => h3 (List.mem_reverse.2 hm))
                                    · intro x hx
                                      rw [List.take_add_one, HE.out, List.mem_append] at hx
                                      rcases hx with hx | hx
                                      · exact HG.out x hx
                                      · simp only [Option.toList_some, List.mem_singleton] at hx
                                        subst hx
                                        exact hG.out
                        · have d10 : ((e.address : Int) != 0) = true := by rw [bne_iff_ne]; omega
                          go_wp2_with (at_mapUpdate; (refine ev_seen rfl (.tmp 67) (.tmp 69) _ rfl w.heap.size k (texts (L.take k)).reverse rfl S6.out (by simp only [maxLen]; omega) e.name (by simp only [maxLen]; omega) rfl rfl ?_; intro w7 hA hB; have S7 := Lib.hid hA; have B7 := Lib.hid (B6.out.keep hB (fun e => by omega)); have M7 : Hid (Mod Nowhere w w7) := M6.out.trans hB (fun x hx e => by omega); have z0 := B7.out.cell 0; have z1 := B7.out.cell 1; have z2 := B7.out.cell 2; have z3 := B7.out.cell 3; have z4 := B7.out.cell 4; simp only [List.getElem?_toArray, List.getElem?_cons_zero, List.getElem?_cons_succ] at z0 z1 z2 z3 z4; clear hA hB y0 y1 y2 y3 y4))
                          go_ret
                          exact ⟨false, rfl, fun h => (by cases h), M7.out⟩
                      · have d2k : (bits .and .u64 (e.flags : Int) 3 == 2) = false := by rw [a3]; rw [beq_eq_false_iff_ne]; omega
                        by_cases h10 : e.address = 0
                        · have d10 : ((e.address : Int) != 0) = false := by rw [bne_eq_false_iff_eq]; omega
                          by_cases h11 : e.other > 1000
                          · have d11 : decide ((e.other : Int) > 1000) = true := by rw [decide_eq_true_iff]; omega
                            go_wp2_with (at_mapUpdate; (refine ev_seen rfl (.tmp 67) (.tmp 69) _ rfl w.heap.size k (texts (L.take k)).reverse rfl S6.out (by simp only [maxLen]; omega) e.name (by simp only [maxLen]; omega) rfl rfl ?_; intro w7 hA hB; have S7 := Lib.hid hA; have B7 := Lib.hid (B6.out.keep hB (fun e => by omega)); have M7 : Hid (Mod Nowhere w w7) := M6.out.trans hB (fun x hx e => by omega); have z0 := B7.out.cell 0; have z1 := B7.out.cell 1; have z2 := B7.out.cell 2; have z3 := B7.out.cell 3; have z4 := B7.out.cell 4; simp only [List.getElem?_toArray, List.getElem?_cons_zero, List.getElem?_cons_succ] at z0 z1 z2 z3 z4; clear hA hB y0 y1 y2 y3 y4))
                            go_ret
                            exact ⟨false, rfl, fun h => (by cases h), M7.out⟩
                          · have d11 : decide ((e.other : Int) > 1000) = false := by rw [decide_eq_false_iff_not]; omega
                            cases hemp : e.imp.toList.isEmpty with
                            | true =>
                              have hi0 : e.imp.size = 0 := size_of_empty hemp
                              have d12 : decide ((e.imp.size : Int) > 60) = false := by rw [decide_eq_false_iff_not]; omega
                              have hG : Hid (Good e) := ⟨HB1.out (by trivial), by omega, by omega, h5, (by intro h; omega), (by intro h; omega), (fun _ => ⟨h10, by omega, fun h => (by cases hemp.symm.trans h), by omega⟩), (fun h => absurd h h8)⟩
                              go_wp2_with (at_mapUpdate; (refine ev_seen rfl (.tmp 67) (.tmp 69) _ rfl w.heap.size k (texts (L.take k)).reverse rfl S6.out (by simp only [maxLen]; omega) e.name (by simp only [maxLen]; omega) rfl rfl ?_; intro w7 hA hB; have S7 := Lib.hid hA; have B7 := Lib.hid (B6.out.keep hB (fun e => by omega)); have M7 : Hid (Mod Nowhere w w7) := M6.out.trans hB (fun x hx e => by omega); have z0 := B7.out.cell 0; have z1 := B7.out.cell 1; have z2 := B7.out.cell 2; have z3 := B7.out.cell 3; have z4 := B7.out.cell 4; simp only [List.getElem?_toArray, List.getElem?_cons_zero, List.getElem?_cons_succ] at z0 z1 z2 z3 z4; clear hA hB y0 y1 y2 y3 y4))
                              go_roundg (L.length - (k + 1))
                              case measure => have := HKQ.out; omega
                              case rel =>
                                refine ⟨k + 1, by go_num, by omega, rfl, hlt, ?_, ?_, ?_, M7.out⟩
                                · rw [texts_snoc HE.out, List.reverse_append]; exact S7.out
                                · rw [texts_snoc HE.out]
                                  exact nodup_snoc HND.out (fun hm => h3 (List.mem_reverse.2 hm))
                                · intro x hx
                                  rw [List.take_add_one, HE.out, List.mem_append] at hx
                                  rcases hx with hx | hx
                                  · exact HG.out x hx
                                  · simp only [Option.toList_some, List.mem_singleton] at hx
                                    subst hx
                                    exact hG.out
                            | false =>
                              go_wp2_with (at_mapUpdate; (refine ev_seen rfl (.tmp 67) (.tmp 69) _ rfl w.heap.size k (texts (L.take k)).reverse rfl S6.out (by simp only [maxLen]; omega) e.name (by simp only [maxLen]; omega) rfl rfl ?_; intro w7 hA hB; have S7 := Lib.hid hA; have B7 := Lib.hid (B6.out.keep hB (fun e => by omega)); have M7 : Hid (Mod Nowhere w w7) := M6.out.trans hB (fun x hx e => by omega); have z0 := B7.out.cell 0; have z1 := B7.out.cell 1; have z2 := B7.out.cell 2; have z3 := B7.out.cell 3; have z4 := B7.out.cell 4; simp only [List.getElem?_toArray, List.getElem?_cons_zero, List.getElem?_cons_succ] at z0 z1 z2 z3 z4; clear hA hB y0 y1 y2 y3 y4))
                              refine (plain_any w7 e.imp (by simp only [maxLen]; omega)).mono ?_
                              rintro en w8 ⟨b2, rfl, hb2, hm8⟩
                              have HB2 := Lib.hid hb2
                              have M8 := Lib.hid (M7.out.then hm8)
                              have S8 := Lib.hid (S7.out.keep hm8 (fun h => h))
                              have B8 := Lib.hid (B7.out.keep hm8 (fun h => h))
                              have u0 := B8.out.cell 0
                              have u1 := B8.out.cell 1
                              have u2 := B8.out.cell 2
                              have u3 := B8.out.cell 3
                              have u4 := B8.out.cell 4
                              simp only [List.getElem?_toArray, List.getElem?_cons_zero, List.getElem?_cons_succ] at u0 u1 u2 u3 u4
                              clear hb2 hm8 z0 z1 z2 z3 z4
                              cases b2 with
                              | false =>
                                go_wp2_with fail
                                go_ret
                                exact ⟨false, rfl, fun h => (by cases h), M8.out⟩
                              | true =>
                                by_cases h13 : e.imp.size > 60
                                · have d12 : decide ((e.imp.size : Int) > 60) = true := by rw [decide_eq_true_iff]; omega
                                  go_wp2_with fail
                                  go_ret
                                  exact ⟨false, rfl, fun h => (by cases h), M8.out⟩
                                · have d12 : decide ((e.imp.size : Int) > 60) = false := by rw [decide_eq_false_iff_not]; omega
                                  have hG : Hid (Good e) := ⟨HB1.out (by trivial), by omega, by omega, h5, (by intro h; omega), (by intro h; omega), (fun _ => ⟨h10, by omega, fun _ => HB2.out (by trivial), by omega⟩), (fun h => absurd h h8)⟩
                                  go_wp2_with fail
                                  go_roundg (L.length - (k + 1))
                                  case measure => have := HKQ.out; omega
                                  case rel =>
                                    refine ⟨k + 1, by go_num, by omega, rfl, hlt, ?_, ?_, ?_, M8.out⟩
                                    · rw [texts_snoc HE.out, List.reverse_append]; exact S8.out
                                    · rw [texts_snoc HE.out]
                                      exact nodup_snoc HND.out (fun hm => h3 (List.mem_reverse.2 hm))
                                    · intro x hx
                                      rw [List.take_add_one, HE.out, List.mem_append] at hx
                                      rcases hx with hx | hx
                                      · exact HG.out x hx
                                      · simp only [Option.toList_some, List.mem_singleton] at hx
                                        subst hx
                                        exact hG.out
                        · have d10 : ((e.address : Int) != 0) = true := by rw [bne_iff_ne]; omega
                          go_wp2_with (at_mapUpdate; (refine ev_seen rfl (.tmp 67) (.tmp 69) _ rfl w.heap.size k (texts (L.take k)).reverse rfl S6.out (by simp only [maxLen]; omega) e.name (by simp only [maxLen]; omega) rfl rfl ?_; intro w7 hA hB; have S7 := Lib.hid hA; have B7 := Lib.hid (B6.out.keep hB (fun e => by omega)); have M7 : Hid (Mod Nowhere w w7) := M6.out.trans hB (fun x hx e => by omega); have z0 := B7.out.cell 0; have z1 := B7.out.cell 1; have z2 := B7.out.cell 2; have z3 := B7.out.cell 3; have z4 := B7.out.cell 4; simp only [List.getElem?_toArray, List.getElem?_cons_zero, List.getElem?_cons_succ] at z0 z1 z2 z3 z4; clear hA hB y0 y1 y2 y3 y4))
                          go_ret
                          exact ⟨false, rfl, fun h => (by cases h), M7.out⟩
                    · have d16 : (bits .and .u64 (e.flags : Int) 16 != 0) = true := by rw [a16]; rw [bne_iff_ne]; omega
                      clear a3 a8 a16
                      go_wp2_with fail
                      go_ret
                      exact ⟨false, rfl, fun h => (by cases h), M6.out⟩
      · have hend : decide (k < L.length) = false := by simp; omega
        have hke : k = L.length := by have := HKL.out; omega
        go_wp2_with fail
        go_ret
        refine ⟨true, rfl, fun _ => ⟨h1, ?_, ?_⟩, HM.out⟩
        · have := HND.out
          rwa [hke, List.take_length] at this
        · have := HG.out
          rwa [hke, List.take_length] at this
  · have d1 : decide ((L.length : Int) > 60) = true := by rw [decide_eq_true_iff]; omega
    go_enter Tryd.func5, Tryd.ntmps5
    go_wp2_with fail
    go_ret
    exact ⟨false, rfl, fun h => (by cases h), Mod.refl _ _⟩

end Go.Proofs.YtkpiioiahdcpjaaDoor
