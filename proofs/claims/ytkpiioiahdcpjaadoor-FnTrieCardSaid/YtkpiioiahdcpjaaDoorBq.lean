/- exports: the found exports, sorted by their names, are those of the list, their addresses from the base on. -/
import Derived.Test.YtkpiioiahdcpjaaDoorBp
import Derived.Test.YtkpiioiahdcpjaaDoorAe
namespace Go.Proofs.YtkpiioiahdcpjaaDoor
open Go.RowKit Go.Lib Go.Sort

theorem impCells5 (B : Nat) (e : Exp) : (impCells e B).length = 5 := rfl
theorem arr_list (l : List Exp) : (Array.range l.length).map (fun k => l[k]!) = l.toArray := by
  refine Array.ext (by simp) fun i h1 h2 => ?_
  have h : i < l.length := by simpa using h2
  simp [h]

set_option maxHeartbeats 3200000 in
set_option maxRecDepth 100000 in
theorem exports9_any (w : World) (v : Value) (es L : List Exp) (base lb lo c B : Nat) (hrow : w.ownsRow base 38 5 v es.length (es.flatMap fun e => impCells e B)) (hL : ExpsAt w lb lo L) (hp : es.Perm L) (h1 : 1 ≤ L.length) (h60 : L.length ≤ 60) (hn : (L.map (·.name)).Nodup) (hg : ∀ e ∈ L, Good e) (hB : B ≤ 1099511627776) :
    Calls Tryd.prog 9 #[v, .slice (some ⟨lb, lo, none⟩) L.length c, .int .u64 B] w fun en w' => en = .returned (.bool true) ∧ Mod Nowhere w w' := by
  have hlen : es.length = L.length := hp.length_eq
  have HLEN := Lib.hid hlen
  have HL := Lib.hid hL
  have HP := Lib.hid hp
  have HN := Lib.hid hn
  have HG := Lib.hid hg
  have hown0 : (w.alloc (.cells #[] 38)).ownsRow w.heap.size 38 5 (.slice (some ⟨w.heap.size, 0, none⟩) 0 0) 0 [] :=
    ⟨rfl, .inr ⟨w.heap.size, 0, #[], rfl, Nat.le_refl _, Blk.new w 38 #[], Nat.le_refl _, Nat.zero_le _, rfl, rfl⟩⟩
  have HOWN := Lib.hid hown0
  obtain ⟨g0, cap0, rfl, _, _, _⟩ := holds_of_row (impCells5 B) hrow (by omega)
  have HSRC : Hid (Src (w.alloc (.cells #[] 38)) 5 (.slice (some ⟨g0, 0, none⟩) es.length cap0) es.length (es.flatMap fun e => impCells e B)) := (Src.of_own hrow).keep ((Mod.refl Nowhere w).alloc _) (fun _ _ _ _ h => h) (by omega)
  rw [hlen] at HSRC
  rw [hlen]
  clear hL hp hn hg hown0 hrow hlen
  go_enter Tryd.func9, Tryd.ntmps9
  go_wp2_with (at_builtin; (refine ev_appx 26 38 _ 5 56 Tryd.underlying26 info38 rfl (by decide) rfl (.tmp 13) (.tmp 14) rfl w.heap.size (.slice (some ⟨w.heap.size, 0, none⟩) 0 0) 0 [] rfl HOWN.out L.length (es.flatMap fun e => impCells e B) HSRC.out ?_ (by omega) (by decide) (by simp) ?_; (intro u hu; obtain ⟨e, _, he⟩ := List.mem_flatMap.1 hu; simp only [impCells, List.mem_cons, List.not_mem_nil, or_false] at he; rcases he with rfl | rfl | rfl | rfl | rfl <;> rfl); intro v w2 hA hB hC; rw [Nat.zero_add, List.nil_append, ← HLEN.out] at hA; obtain ⟨g, cap, rfl, hbg, hlt, hh⟩ := holds_of_row (impCells5 B) hA (by have := HLEN.out; omega); rw [HLEN.out]; have HH := Lib.hid hh; have HB := Lib.hid hB; clear hA hB hC hh))
  have hm2 := (Mod.refl Nowhere w2).alloc (.cells #[.slice (some ⟨g, 0, none⟩) L.length cap] 26)
  have hr : RowI B L.length g cap w2.heap.size (w2.alloc (.cells #[.slice (some ⟨g, 0, none⟩) L.length cap] 26)) (fun k => es[k]!) := by
    refine ⟨?_, hm2.size_lt hlt, (Blk.new w2 26 #[.slice (some ⟨g, 0, none⟩) L.length cap]).cell 0⟩
    rw [← HLEN.out, arr_list]
    exact holdsK_mod (S := Nowhere) HH.out hlt ((Mod.refl Nowhere w2).alloc _) id
  refine (sliceStable_any h1 h60 (by omega) _ _ hr).mono ?_
  rintro en w3 ⟨rfl, f', hr3, hpm, hso, hm3⟩
  have HPM := Lib.hid hpm
  have HSO := Lib.hid hso
  have HM3 : Hid (Mod Nowhere w w3) := by
    have h1 : Mod Nowhere w w2 := ((Mod.refl Nowhere w).alloc (.cells #[] 38)).trans HB.out fun x hx e => by injection e with e; have e' : w.heap.size = x := e; omega
    exact (h1.trans hm2 fun _ _ h => h).trans hm3 fun x hx e => by omega
  have HR3 := Lib.hid hr3
  have cbox := hr3.2.2
  generalize w2.heap.size = Bs at *
  clear hr hm2 hpm hso hm3 hr3 HH HB HSRC HOWN
  have t1 : ((L.length : Int) != L.length) = false := by simp
  go_wp2_with fail
  refine (sorted20_any w3 lb lo c L (HL.out.then HM3.out) h1 h60).mono ?_
  rintro en w4 ⟨blk, cap2, L', rfl, hp', hs', hx', hm4⟩
  have hl' : L'.length = L.length := hp'.length_eq
  have HLL := Lib.hid hl'
  have HEQ : Hid (∀ k, k < L.length → L'[k]? = some (f' k)) := by
    have e : lst f' L.length = L' := by
      refine sorted_unique HN.out ?_ hp' (lst_pairwise HSO.out) hs'
      have := HPM.out.2
      rw [lst_seg, lst_seg, ← HLEN.out, lst_of] at this
      rw [← HLEN.out]
      exact this.trans HP.out
    intro k hk
    rw [← e]
    exact lst_get f' hk
  have HGD : Hid (∀ k, k < L.length → Good (f' k)) := fun k hk => HG.out _ (hp'.mem_iff.1 (List.mem_of_getElem? (HEQ.out k hk)))
  have HX := Lib.hid hx'
  have HR4 := Lib.hid (HR3.out.keep hm4)
  have HM4 := Lib.hid (HM3.out.then hm4)
  clear HR3 HM3 hp' hs' hx' hm4 hl' HPM HSO HN HP HG HLEN HL HLL cbox
  go_wp2_with fail
  go_loopg [28] L.length (fun kq v28 wr => ∃ k : Nat, v28 = .int .i64 k ∧ k ≤ 60 ∧ Hid (kq = L.length - k ∧ k ≤ L.length ∧ Mod Nowhere w4 wr))
  case atStart => exact ⟨0, rfl, by omega, rfl, Nat.zero_le _, Mod.refl _ _⟩
  case round =>
    obtain ⟨k, rfl, hk60, HH⟩ := hrel
    have HKQ := Lib.hid HH.out.1
    have HKL := Lib.hid HH.out.2.1
    have HM := Lib.hid HH.out.2.2
    clear HH
    by_cases hlt : k < L.length
    · have hgd := HGD.out k hlt
      obtain ⟨x0, x1, x2, x3, x4⟩ := (HX.out.then HM.out) k (f' k) (HEQ.out k hlt)
      rw [Nat.zero_add] at x0 x1 x2 x3 x4
      have hrk := HR4.out.keep HM.out
      have y0 := hrk.cell hlt (i := 0) (by omega)
      have y1 := hrk.cell hlt (i := 1) (by omega)
      have y2 := hrk.cell hlt (i := 2) (by omega)
      have y3 := hrk.cell hlt (i := 3) (by omega)
      have y4 := hrk.cell hlt (i := 4) (by omega)
      have cb := hrk.2.2
      generalize f' k = e at hgd x0 x1 x2 x3 x4 y0 y1 y2 y3 y4
      change wr.cell? ⟨g, k * 5, none⟩ = some (.string e.name) at y0
      change wr.cell? ⟨g, k * 5 + 1, none⟩ = some (.int .u64 e.flags) at y1
      change wr.cell? ⟨g, k * 5 + 2, none⟩ = some (.int .u64 (addrOf e B)) at y2
      change wr.cell? ⟨g, k * 5 + 3, none⟩ = some (.int .u64 (otherOf e B)) at y3
      change wr.cell? ⟨g, k * 5 + 4, none⟩ = some (.string e.imp) at y4
      obtain ⟨nm, fl, ad, ot, im⟩ := e
      have hfl : fl ≤ 31 := hgd.fl
      have hboth : ¬ (fl &&& 8 ≠ 0 ∧ fl &&& 16 ≠ 0) := hgd.both
      have hre : fl &&& 8 ≠ 0 → ad = 0 ∧ ot ≤ 1000 := fun h => ⟨(hgd.re h).1, (hgd.re h).2.1⟩
      have hown : fl &&& 8 = 0 → (fl &&& 16 = 0 → ot = 0) ∧ ad ≤ 281474976710656 ∧ ot ≤ 281474976710656 := fun h => (hgd.own h).2
      clear hgd
      have a3 : bits .and .u64 (fl : Int) 3 = ((fl &&& 3 : Nat) : Int) := and_u64 fl 3 (by omega) (by omega)
      have a8 : bits .and .u64 (fl : Int) 8 = ((fl &&& 8 : Nat) : Int) := and_u64 fl 8 (by omega) (by omega)
      have a16 : bits .and .u64 (fl : Int) 16 = ((fl &&& 16 : Nat) : Int) := and_u64 fl 16 (by omega) (by omega)
      simp only at x0 x1 x2 x3 x4 y0 y1 y2 y3 y4
      unfold addrOf at y2
      unfold otherOf at y3
      simp only at y2 y3
      by_cases c16 : fl &&& 16 = 0
      · have d16 : (bits .and .u64 (fl : Int) 16 != 0) = false := by rw [a16, bne_eq_false_iff_eq]; omega
        by_cases c8 : fl &&& 8 = 0
        · have d8 : (bits .and .u64 (fl : Int) 8 == 0) = true := by rw [a8, beq_iff_eq]; omega
          obtain ⟨hot, had, _⟩ := hown c8
          have hot0 : ot = 0 := hot c16
          subst hot0
          rw [if_neg (by omega), if_neg (by omega)] at y2 y3
          rw [show ((0 : Nat) : Int) = 0 from rfl] at x3 y3
          by_cases c3 : fl &&& 3 = 2
          · have d3 : (bits .and .u64 (fl : Int) 3 != 2) = false := by rw [a3, bne_eq_false_iff_eq]; omega
            rw [if_pos c3] at y2
            clear a3 a8 a16 hfl hboth hre hown
            have cb' : (wr.alloc (.cells #[.string nm, .int .u64 fl, .int .u64 ad, .int .u64 0, .string im] 34)).cell? ⟨Bs, 0, none⟩ = _ := cell_alloc cb _
            have z0 : (wr.alloc (.cells #[.string nm, .int .u64 fl, .int .u64 ad, .int .u64 0, .string im] 34)).cell? _ = _ := cell_alloc y0 _
            have z1 : (wr.alloc (.cells #[.string nm, .int .u64 fl, .int .u64 ad, .int .u64 0, .string im] 34)).cell? _ = _ := cell_alloc y1 _
            have z2 : (wr.alloc (.cells #[.string nm, .int .u64 fl, .int .u64 ad, .int .u64 0, .string im] 34)).cell? _ = _ := cell_alloc y2 _
            have z3 : (wr.alloc (.cells #[.string nm, .int .u64 fl, .int .u64 ad, .int .u64 0, .string im] 34)).cell? _ = _ := cell_alloc y3 _
            have z4 : (wr.alloc (.cells #[.string nm, .int .u64 fl, .int .u64 ad, .int .u64 0, .string im] 34)).cell? _ = _ := cell_alloc y4 _
            go_wp2_with fail
            clear x0 x1 x2 x3 x4 y0 y1 y2 y3 y4 cb
            go_quiet (fail)
            go_wp2_with fail
            go_roundg (L.length - (k + 1))
            case measure => have := HKQ.out; omega
            case rel => exact ⟨k + 1, by go_num, by omega, rfl, by omega, ((HM.out.alloc _).alloc _).drewN _⟩
          · have d3 : (bits .and .u64 (fl : Int) 3 != 2) = true := by rw [a3, bne_iff_ne]; omega
            rw [if_neg c3, Int.natCast_add] at y2
            clear a3 a8 a16 hfl hboth hre hown
            have cb' : (wr.alloc (.cells #[.string nm, .int .u64 fl, .int .u64 ad, .int .u64 0, .string im] 34)).cell? ⟨Bs, 0, none⟩ = _ := cell_alloc cb _
            have z0 : (wr.alloc (.cells #[.string nm, .int .u64 fl, .int .u64 ad, .int .u64 0, .string im] 34)).cell? _ = _ := cell_alloc y0 _
            have z1 : (wr.alloc (.cells #[.string nm, .int .u64 fl, .int .u64 ad, .int .u64 0, .string im] 34)).cell? _ = _ := cell_alloc y1 _
            have z2 : (wr.alloc (.cells #[.string nm, .int .u64 fl, .int .u64 ad, .int .u64 0, .string im] 34)).cell? _ = _ := cell_alloc y2 _
            have z3 : (wr.alloc (.cells #[.string nm, .int .u64 fl, .int .u64 ad, .int .u64 0, .string im] 34)).cell? _ = _ := cell_alloc y3 _
            have z4 : (wr.alloc (.cells #[.string nm, .int .u64 fl, .int .u64 ad, .int .u64 0, .string im] 34)).cell? _ = _ := cell_alloc y4 _
            go_wp2_with fail
            clear x0 x1 x2 x3 x4 y0 y1 y2 y3 y4 cb
            go_quiet (fail)
            go_wp2_with fail
            go_roundg (L.length - (k + 1))
            case measure => have := HKQ.out; omega
            case rel => exact ⟨k + 1, by go_num, by omega, rfl, by omega, ((HM.out.alloc _).alloc _).drewN _⟩
        · have d8 : (bits .and .u64 (fl : Int) 8 == 0) = false := by rw [a8, beq_eq_false_iff_ne]; omega
          obtain ⟨had, hot⟩ := hre c8
          subst had
          rw [if_pos c8] at y2 y3
          rw [show ((0 : Nat) : Int) = 0 from rfl] at x2 y2
          clear a3 a8 a16 hfl hboth hre hown
          have cb' : (wr.alloc (.cells #[.string nm, .int .u64 fl, .int .u64 0, .int .u64 ot, .string im] 34)).cell? ⟨Bs, 0, none⟩ = _ := cell_alloc cb _
          have z0 : (wr.alloc (.cells #[.string nm, .int .u64 fl, .int .u64 0, .int .u64 ot, .string im] 34)).cell? _ = _ := cell_alloc y0 _
          have z1 : (wr.alloc (.cells #[.string nm, .int .u64 fl, .int .u64 0, .int .u64 ot, .string im] 34)).cell? _ = _ := cell_alloc y1 _
          have z2 : (wr.alloc (.cells #[.string nm, .int .u64 fl, .int .u64 0, .int .u64 ot, .string im] 34)).cell? _ = _ := cell_alloc y2 _
          have z3 : (wr.alloc (.cells #[.string nm, .int .u64 fl, .int .u64 0, .int .u64 ot, .string im] 34)).cell? _ = _ := cell_alloc y3 _
          have z4 : (wr.alloc (.cells #[.string nm, .int .u64 fl, .int .u64 0, .int .u64 ot, .string im] 34)).cell? _ = _ := cell_alloc y4 _
          go_wp2_with fail
          clear x0 x1 x2 x3 x4 y0 y1 y2 y3 y4 cb
          go_quiet (fail)
          go_wp2_with fail
          go_roundg (L.length - (k + 1))
          case measure => have := HKQ.out; omega
          case rel => exact ⟨k + 1, by go_num, by omega, rfl, by omega, ((HM.out.alloc _).alloc _).drewN _⟩
      · have d16 : (bits .and .u64 (fl : Int) 16 != 0) = true := by rw [a16, bne_iff_ne]; omega
        have c8 : fl &&& 8 = 0 := by omega
        obtain ⟨_, had, hot⟩ := hown c8
        rw [if_neg (by omega), if_pos c16, Int.natCast_add] at y2 y3
        clear a3 a8 a16 hfl hboth hre hown
        have cb' : (wr.alloc (.cells #[.string nm, .int .u64 fl, .int .u64 ad, .int .u64 ot, .string im] 34)).cell? ⟨Bs, 0, none⟩ = _ := cell_alloc cb _
        have z0 : (wr.alloc (.cells #[.string nm, .int .u64 fl, .int .u64 ad, .int .u64 ot, .string im] 34)).cell? _ = _ := cell_alloc y0 _
        have z1 : (wr.alloc (.cells #[.string nm, .int .u64 fl, .int .u64 ad, .int .u64 ot, .string im] 34)).cell? _ = _ := cell_alloc y1 _
        have z2 : (wr.alloc (.cells #[.string nm, .int .u64 fl, .int .u64 ad, .int .u64 ot, .string im] 34)).cell? _ = _ := cell_alloc y2 _
        have z3 : (wr.alloc (.cells #[.string nm, .int .u64 fl, .int .u64 ad, .int .u64 ot, .string im] 34)).cell? _ = _ := cell_alloc y3 _
        have z4 : (wr.alloc (.cells #[.string nm, .int .u64 fl, .int .u64 ad, .int .u64 ot, .string im] 34)).cell? _ = _ := cell_alloc y4 _
        go_wp2_with fail
        clear x0 x1 x2 x3 x4 y0 y1 y2 y3 y4 cb
        go_quiet (fail)
        go_wp2_with fail
        go_quiet (fail)
        go_wp2_with fail
        go_roundg (L.length - (k + 1))
        case measure => have := HKQ.out; omega
        case rel => exact ⟨k + 1, by go_num, by omega, rfl, by omega, ((HM.out.alloc _).alloc _).drewN _⟩
    · have hend : decide (k < L.length) = false := by simp; omega
      go_wp2_with fail
      go_ret
      exact ⟨rfl, HM4.out.then HM.out⟩
end Go.Proofs.YtkpiioiahdcpjaaDoor
