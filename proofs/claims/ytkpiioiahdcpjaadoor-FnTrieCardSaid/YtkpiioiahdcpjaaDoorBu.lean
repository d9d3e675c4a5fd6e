/- FnTrie: the law answers true at every list and base. -/
import Derived.Test.YtkpiioiahdcpjaaDoorBt
namespace Go.Proofs.YtkpiioiahdcpjaaDoor
open Go.RowKit Go.Sort

set_option maxHeartbeats 1600000 in
set_option maxRecDepth 100000 in
theorem fnTrie_any (w : World) (v : Value) (lb lo : Nat) (L : List Exp) (B : Nat) (h : ListAt w v lb lo L) (heof : ∃ t v, w.cell? ⟨0, 0, none⟩ = some (.iface t v)) :
    Calls Tryd.prog 3 #[v, .int .u64 B] w fun en w' => en = .returned (.bool true) ∧ Mod Nowhere w w' := by
  obtain ⟨A, c, rfl, hA⟩ := h.val
  have H := Lib.hid h
  have HA := Lib.hid hA
  have HE := Lib.hid heof
  clear h hA heof
  go_enter Tryd.func3, Tryd.ntmps3
  go_wp2_with fail
  refine (fits1_any _ _ lb lo L H.out).mono ?_
  rintro en w1 ⟨b1, rfl, hsz, hm1⟩
  have HM1 := Lib.hid hm1
  have HSZ := Lib.hid hsz
  clear hm1 hsz
  cases b1 with
  | false =>
    go_wp2_with fail
    go_ret
    exact ⟨rfl, HM1.out⟩
  | true =>
    go_wp2_with fail
    refine (exported_any _ _ lb lo L (H.out.then HM1.out) (HSZ.out (by trivial))).mono ?_
    rintro en w2 ⟨b2, rfl, hgood, hm2⟩
    have HM2 := Lib.hid (HM1.out.then hm2)
    have HG := Lib.hid hgood
    clear hm2 hgood HM1 HSZ
    have hwk : Calls Tryd.prog 6 #[] w2 fun en w' => en = .returned (.bool true) ∧ Mod Nowhere w2 w' := works_any w2 (by obtain ⟨t, v, h⟩ := HE.out; exact ⟨t, v, HM2.out.keeps h id⟩)
    have HWK := Lib.hid hwk
    clear hwk
    cases b2 with
    | false =>
      go_wp2_with fail
      refine HWK.out.mono ?_
      rintro en w3 ⟨rfl, hm3⟩
      have HM3 := Lib.hid (HM2.out.then hm3)
      clear hm3
      go_wp2_with fail
      go_ret
      exact ⟨rfl, HM3.out⟩
    | true =>
      by_cases h0 : L.length = 0
      · have d0 : ((L.length : Int) == 0) = true := by rw [beq_iff_eq]; omega
        have HD0 := Lib.hid h0
        clear h0
        go_wp2_with fail
        refine HWK.out.mono ?_
        rintro en w3 ⟨rfl, hm3⟩
        have HM3 := Lib.hid (HM2.out.then hm3)
        clear hm3
        go_wp2_with fail
        go_ret
        exact ⟨rfl, HM3.out⟩
      · have d0 : ((L.length : Int) == 0) = false := by rw [beq_eq_false_iff_ne]; omega
        by_cases hb : B > 1099511627776
        · have d1 : decide ((B : Int) > 1099511627776) = true := by rw [decide_eq_true_iff]; omega
          go_wp2_with fail
          refine HWK.out.mono ?_
          rintro en w3 ⟨rfl, hm3⟩
          have HM3 := Lib.hid (HM2.out.then hm3)
          clear hm3
          go_wp2_with fail
          go_ret
          exact ⟨rfl, HM3.out⟩
        · have d1 : decide ((B : Int) > 1099511627776) = false := by rw [decide_eq_false_iff_not]; omega
          have hAA : A = some ⟨lb, lo, none⟩ := HA.out (by omega)
          subst hAA
          clear HWK
          have hgl := HG.out (by trivial)
          have HGL := Lib.hid hgl
          clear hgl HG
          go_wp2_with fail
          refine (trie_out _ lb lo c L ((H.out.then HM2.out).at') HGL.out.namesOk).mono ?_
          intro en w3 ht
          have HM3 := Lib.hid (HM2.out.then ht.mod)
          obtain ⟨_, b, n, c2, rfl, hcall⟩ := back_any ht HGL.out.namesOk (fun e he => (HGL.out.2.2 e he).flOk) (by omega) (by obtain ⟨t, v, h⟩ := HE.out; exact ⟨t, v, HM3.out.keeps h id⟩) B (by omega)
          clear ht HM2
          go_wp2_with fail
          refine hcall.mono ?_
          rintro en w4 ⟨v, es, rfl, hp, hrow, hm4⟩
          have HM4 := Lib.hid (HM3.out.then hm4)
          have HROW := Lib.hid hrow
          have HP := Lib.hid hp
          clear hcall hp hrow hm4 HM3
          go_wp2_with fail
          refine (exports9_any w4 v es L w3.heap.size lb lo c B HROW.out ((H.out.then HM4.out).at') HP.out (by omega) HGL.out.1 HGL.out.names HGL.out.2.2 (by omega)).mono ?_
          rintro en w5 ⟨rfl, hm5⟩
          have HM5 := Lib.hid (HM4.out.then hm5)
          clear hm5 HROW HP HM4
          go_wp2_with fail
          refine (works_any w5 (by obtain ⟨t, v, h⟩ := HE.out; exact ⟨t, v, HM5.out.keeps h id⟩)).mono ?_
          rintro en w6 ⟨rfl, hm6⟩
          have HM6 := Lib.hid (HM5.out.then hm6)
          clear hm6
          go_wp2_with fail
          go_ret
          exact ⟨rfl, HM6.out⟩
end Go.Proofs.YtkpiioiahdcpjaaDoor
