/- The walk of spec.(*knot).bytes. -/
import Derived.Test.YtkpiioiahdcpjaaDoorI
import Derived.Deep.LoopGhost
namespace Go.Proofs.YtkpiioiahdcpjaaDoor
open Go.RowKit

set_option maxHeartbeats 800000 in
set_option maxRecDepth 100000 in
theorem bytes_any (k : Nat) (info : List UInt8) (A : Option Addr) (c : Nat) (E : List (ByteArray × Nat × Nat)) (w : World)
    (hinfo : Calls Tryd.prog 24 #[.pointer (some ⟨k, 0, none⟩)] w fun en w' => ∃ v, en = .returned v ∧ Byt w' w.heap.size v info ∧ Mod Nowhere w w')
    (hes : w.cell? ⟨k, 1, none⟩ = some (.slice A E.length c)) (hE : EdgesAt w A E) (hn : E.length ≤ 255) (hil : info.length ≤ 100)
    (hl : ∀ lab id pos, (lab, id, pos) ∈ E → lab.size ≤ 60 ∧ (uleb pos).length ≤ 16) :
    Calls Tryd.prog 17 #[.pointer (some ⟨k, 0, none⟩)] w fun en w' => ∃ v, en = .returned v ∧ Byt w' w.heap.size v (nodeB info (E.map fun e => (e.1, e.2.2))) ∧ Mod Nowhere w w' := by
  have HI := Lib.hid hinfo
  have HE := Lib.hid hE
  have HL := Lib.hid hl
  clear hinfo hE hl
  have hkb : k < w.heap.size := World.block_lt_of_cell? w _ hes
  go_enter Tryd.func17, Tryd.ntmps17
  go_wp2_with fail
  refine HI.out.mono ?_
  rintro en w1 ⟨v1, rfl, hb1, hm1⟩
  have HB1 := Lib.hid hb1
  have HM1 := Lib.hid hm1
  have hes1 := hm1.keeps hes id
  obtain ⟨A1, c1, hv1, hc1⟩ := hb1.slice
  subst hv1
  clear hb1 hm1 hes
  go_wp2_with fail
  refine (unsigned_any info.length _ (Nat.le_trans (uleb_10 _ (by omega)) (by omega))).mono ?_
  rintro en w2 ⟨v2, rfl, hb2, hm2⟩
  have HB2 := Lib.hid (hb2.mono HM1.out.size)
  have HB1a := Lib.hid (HB1.out.then hm2)
  have HM2 := Lib.hid (HM1.out.then hm2)
  have hes2 := hm2.keeps hes1 id
  have hul : (uleb info.length).length ≤ 10 := uleb_10 _ (by omega)
  clear hb2 hm2 hes1
  go_wp2_with (first
    | (with_reducible refine ev_gate (N := 14) rfl ?_
       refine ev_append rfl (.tmp 12) (.tmp 13) rfl w.heap.size v2 (uleb info.length) rfl HB2.out info HB1a.out.src (by omega) HM2.out.size ?_
       intro v3 w3 hb3 hm3 hat3
       have HB3 := Lib.hid hb3
       have HM3 : Hid (Mod Nowhere w w3) := HM2.out.trans hm3 (fun x hx e => by have := HB2.out.lt x e; omega)
       have hes3 := hm3.keeps hes2 (fun e => by have := HB2.out.lt k e; omega)
       clear hb3 hm3 hat3 hes2)
    | (with_reducible refine ev_gate (N := 23) rfl ?_
       refine ev_append rfl (.tmp 15) (.tmp 22) rfl w.heap.size v3 (uleb info.length ++ info) rfl (HB3.out.alloc _) [UInt8.ofNat E.length] (src_one (Blk.new w3 5 _) (u8_ofNat E.length (by omega))) (by simp; omega) (HM3.out.alloc _).size ?_
       intro v4 w4 hb4 hm4 hat4
       have HB4 := Lib.hid hb4
       have HM4 : Hid (Mod Nowhere w w4) := (HM3.out.alloc _).trans hm4 (fun x hx e => by have := HB3.out.lt x e; omega)
       have hes4 := hm4.keeps (cell_alloc hes3 _) (fun e => by have := HB3.out.lt k e; omega)
       clear hb4 hm4 hat4 hes3)
    | fail)
  obtain ⟨out0, hout0⟩ : ∃ l, l = uleb info.length ++ info ++ [UInt8.ofNat E.length] := ⟨_, rfl⟩
  have h0l : out0.length ≤ 120 := by rw [hout0]; simp; omega
  have HO := Lib.hid hout0
  rw [← hout0] at HB4
  clear hout0 hul HB1 HB2 HB1a HB3 HM1 HM2 HM3 hes4 hc1
  go_loopg [4, 29] E.length (fun kq v4 v29 wr => ∃ (i : Nat), i ≤ E.length ∧ v29 = .int .i64 i ∧ Hid (kq = E.length - i ∧ Byt wr w.heap.size v4 (out0 ++ ((E.take i).map fun e => (e.1, e.2.2)).flatMap edgeB) ∧ Mod Nowhere w wr))
  case atStart => exact ⟨0, Nat.zero_le _, rfl, rfl, by simpa using HB4.out, HM4.out⟩
  case round =>
    obtain ⟨i, hi, rfl, H⟩ := hrel
    clear HB4 HM4
    by_cases hlt : i < E.length
    · obtain ⟨⟨lab, id, pos⟩, hEi⟩ : ∃ x, E[i]? = some x := ⟨_, List.getElem?_eq_getElem hlt⟩
      obtain ⟨a, rfl, c0, c1, c2⟩ := HE.out i lab id pos hEi
      obtain ⟨hlab, hpos⟩ := HL.out lab id pos (List.mem_of_getElem? hEi)
      have HEi := Lib.hid hEi
      have hidl : id < w.heap.size := World.block_lt_of_cell? w _ c2
      have c0 := H.out.2.2.keeps c0 (fun h => h)
      have c1 := H.out.2.2.keeps c1 (fun h => h)
      have c2 := H.out.2.2.keeps c2 (fun h => h)
      clear hEi
      go_wp2_with fail
      have HB5 : Hid (Byt (wr.alloc (Obj.cells #[Value.string lab, Value.pointer (some ⟨id, 0, none⟩)] 52)) w.heap.size u4 (out0 ++ ((E.take i).map fun e => (e.1, e.2.2)).flatMap edgeB)) := H.out.2.1.alloc _
      have HM5 : Hid (Mod Nowhere w (wr.alloc (Obj.cells #[Value.string lab, Value.pointer (some ⟨id, 0, none⟩)] 52))) := H.out.2.2.alloc _
      have hg : w.heap.size ≤ wr.heap.size := H.out.2.2.size
      have HO5 : Hid (OOk w wr.heap.size u4) := fun x hx => by have := H.out.2.1.lt x hx; omega
      have x0 : (wr.alloc (Obj.cells #[Value.string lab, Value.pointer (some ⟨id, 0, none⟩)] 52)).cell? ⟨wr.heap.size, 0, none⟩ = some (.string lab) := (Blk.new wr 52 _).cell 0
      have x1 : (wr.alloc (Obj.cells #[Value.string lab, Value.pointer (some ⟨id, 0, none⟩)] 52)).cell? ⟨wr.heap.size, 1, none⟩ = some (.pointer (some ⟨id, 0, none⟩)) := (Blk.new wr 52 _).cell 1
      have x2 : (wr.alloc (Obj.cells #[Value.string lab, Value.pointer (some ⟨id, 0, none⟩)] 52)).cell? ⟨id, 2, none⟩ = some (.int .u64 pos) := cell_alloc c2 _
      have hz : wr.heap.size < (wr.alloc (Obj.cells #[Value.string lab, Value.pointer (some ⟨id, 0, none⟩)] 52)).heap.size := by simp
      have hlen : (out0 ++ ((E.take i).map fun e => (e.1, e.2.2)).flatMap edgeB).length ≤ 20000 := by
        have := edgesB_len ((E.take i).map fun e => (e.1, e.2.2)) (by
          intro l p hp
          obtain ⟨⟨l', id', p'⟩, hm', he'⟩ := List.mem_map.1 hp
          simp only [Prod.mk.injEq] at he'
          obtain ⟨rfl, rfl⟩ := he'
          exact HL.out _ _ _ (List.mem_of_mem_take hm'))
        simp only [List.length_append, List.length_map, List.length_take] at this ⊢
        omega
      have HH := Lib.hid H.out.1
      have HF : Hid (((E.take (i + 1)).map fun e => (e.1, e.2.2)).flatMap edgeB = ((E.take i).map fun e => (e.1, e.2.2)).flatMap edgeB ++ (lab.data.toList ++ [0] ++ uleb pos)) := by
        show _ = _
        rw [List.take_add_one, HEi.out]
        simp [edgeB]
      obtain ⟨cur, hcur⟩ : ∃ l, l = out0 ++ ((E.take i).map fun e => (e.1, e.2.2)).flatMap edgeB := ⟨_, rfl⟩
      rw [← hcur] at HB5 hlen
      have HC := Lib.hid hcur
      clear hcur H c0 c1 c2 HEi
      generalize wr.alloc (Obj.cells #[Value.string lab, Value.pointer (some ⟨id, 0, none⟩)] 52) = w5 at *
      generalize wr.heap.size = g at *
      clear hi
      go_region_held3 (fun w' => w'.cell? ⟨g, 0, none⟩ = some (.string lab) ∧ w'.cell? ⟨g, 1, none⟩ = some (.pointer (some ⟨id, 0, none⟩)) ∧ w'.cell? ⟨id, 2, none⟩ = some (.int .u64 pos)) (first | go_keep | exact ⟨by assumption, by assumption, by assumption⟩)
        ((first
          | (with_reducible refine st_gate (N := 36) rfl ?_
             refine st_append_str ?_ (.tmp 33) (.tmp 35) ?_ w.heap.size u4 cur ?_ (by (with_reducible repeat (first | exact HB5.out | apply Byt.alloc | apply Byt.drew))) lab ?_ ?_ ?_ ?_
             · rfl
             · rfl
             · rfl
             · rfl
             · omega
             · exact Mod.size (S := Nowhere) (by (with_reducible repeat (first | exact HM5.out | apply Mod.alloc | apply Mod.drew)))
             intro v6 w6 hb6 hm6 hat6
             have hS1 : ¬ u4.ownBlock = some g := fun e => (HO5.out _ e).2 rfl
             have hS2 : ¬ u4.ownBlock = some id := fun e => by have := (HO5.out _ e).1; omega
             have x0a : w6.cell? ⟨g, 0, none⟩ = some (.string lab) := hm6.keeps (by (with_reducible repeat (first | exact x0 | apply cell_alloc | apply cell_drew))) hS1
             have x1a : w6.cell? ⟨g, 1, none⟩ = some (.pointer (some ⟨id, 0, none⟩)) := hm6.keeps (by (with_reducible repeat (first | exact x1 | apply cell_alloc | apply cell_drew))) hS1
             have x2a : w6.cell? ⟨id, 2, none⟩ = some (.int .u64 pos) := hm6.keeps (by (with_reducible repeat (first | exact x2 | apply cell_alloc | apply cell_drew))) hS2
             have HB6 := Lib.hid hb6
             have HM6 : Hid (Mod Nowhere w w6) := Mod.trans (S := Nowhere) (by (with_reducible repeat (first | exact HM5.out | apply Mod.alloc | apply Mod.drew))) hm6 (fun x hx e => by have := (HO5.out x e).1; omega)
             have HO6 : Hid (OOk w g v6) := HO5.out.app hat6 (by simp; omega) (by simp; omega)
             first
               | (with_reducible have HZ := Lib.hid ((ZOk.new (base := w.heap.size) (v := u4) (xs := cur) (by (with_reducible repeat (first | exact HB5.out | apply Byt.alloc | apply Byt.drew)))).app hm6 hat6))
               | (have HZ := Lib.hid ((ZOk.new (base := w.heap.size) (v := u4) (xs := cur) (by (with_reducible repeat (first | exact HB5.out | apply Byt.alloc | apply Byt.drew)))).app (Mod.undrew hm6) hat6))
               | skip
             clear hb6 hm6 hat6 hS1 hS2)
          | (with_reducible refine st_gate (N := 38) rfl ?_
             refine st_append ?_ (.tmp 36) (.tmp 37) ?_ w.heap.size v6 (cur ++ lab.data.toList) ?_ (by (with_reducible repeat (first | exact HB6.out | apply Byt.alloc | apply Byt.drew))) [0] ?_ ?_ ?_ ?_
             · rfl
             · rfl
             · rfl
             · first
                 | exact src_one (b := 0) HZ.out.1 (by decide)
                 | exact src_one (b := 0) (Blk.new _ 5 #[Value.int .u8 0]) (by decide)
             · have : lab.data.toList.length = lab.size := rfl
               simp only [List.length_append, this]; simp; omega
             · exact Mod.size (S := Nowhere) (by (with_reducible repeat (first | exact HM6.out | apply Mod.alloc | apply Mod.drew)))
             intro v7 w7 hb7 hm7 hat7
             have hS1 : ¬ v6.ownBlock = some g := fun e => (HO6.out _ e).2 rfl
             have hS2 : ¬ v6.ownBlock = some id := fun e => by have := (HO6.out _ e).1; omega
             have x0b : w7.cell? ⟨g, 0, none⟩ = some (.string lab) := hm7.keeps (by (with_reducible repeat (first | exact x0a | apply cell_alloc | apply cell_drew))) hS1
             have x1b : w7.cell? ⟨g, 1, none⟩ = some (.pointer (some ⟨id, 0, none⟩)) := hm7.keeps (by (with_reducible repeat (first | exact x1a | apply cell_alloc | apply cell_drew))) hS1
             have x2b : w7.cell? ⟨id, 2, none⟩ = some (.int .u64 pos) := hm7.keeps (by (with_reducible repeat (first | exact x2a | apply cell_alloc | apply cell_drew))) hS2
             have HB7 := Lib.hid hb7
             have HM7 : Hid (Mod Nowhere w w7) := Mod.trans (S := Nowhere) (by (with_reducible repeat (first | exact HM6.out | apply Mod.alloc | apply Mod.drew))) hm7 (fun x hx e => by have := (HO6.out x e).1; omega)
             have HO7 : Hid (OOk w g v7) := HO6.out.app hat7 (by have := HM6.out.size; simp; omega) (by have := World.block_lt_of_cell? _ _ x0a; simp at this ⊢; omega)
             clear hb7 hm7 hat7 hS1 hS2)
          | (go_at_call_of 25 (pos : Int)
             refine (unsigned_any pos _ hpos).mono ?_
             rintro en w8 ⟨v8, rfl, hb8, hm8⟩
             have x0c := hm8.keeps x0b (fun h => h)
             have x1c := hm8.keeps x1b (fun h => h)
             have x2c := hm8.keeps x2b (fun h => h)
             have HB8 := Lib.hid hb8
             have HM8 : Hid (Mod Nowhere w w8) := HM7.out.then hm8
             have HB7a : Hid (Byt w8 w.heap.size v7 (cur ++ lab.data.toList ++ [0])) := HB7.out.then hm8
             clear hb8 hm8)
          | (with_reducible refine st_gate (N := 45) rfl ?_
             refine st_append ?_ (.tmp 38) (.tmp 44) ?_ w.heap.size v7 (cur ++ lab.data.toList ++ [0]) ?_ HB7a.out (uleb pos) ?_ ?_ HM8.out.size ?_
             · rfl
             · rfl
             · rfl
             · exact HB8.out.src
             · have : lab.data.toList.length = lab.size := rfl
               simp only [List.length_append, this]; simp; omega
             intro v9 w9 hb9 hm9 hat9
             have hS1 : ¬ v7.ownBlock = some g := fun e => (HO7.out _ e).2 rfl
             have hS2 : ¬ v7.ownBlock = some id := fun e => by have := (HO7.out _ e).1; omega
             have x0d : w9.cell? ⟨g, 0, none⟩ = some (.string lab) := hm9.keeps x0c hS1
             have x1d : w9.cell? ⟨g, 1, none⟩ = some (.pointer (some ⟨id, 0, none⟩)) := hm9.keeps x1c hS1
             have x2d : w9.cell? ⟨id, 2, none⟩ = some (.int .u64 pos) := hm9.keeps x2c hS2
             have HB9 := Lib.hid hb9
             have HM9 : Hid (Mod Nowhere w w9) := HM8.out.trans hm9 (fun x hx e => by have := HB7.out.lt x e; omega)
             clear hb9 hm9 hat9 hS1 hS2)
          | fail))
      all_goals
        go_wp2_with fail
        go_roundg (E.length - (i + 1))
        case measure => have := HH.out; omega
        case rel => exact ⟨i + 1, by omega, by go_num, rfl, by rw [HF.out, ← List.append_assoc, ← List.append_assoc, ← List.append_assoc, ← HC.out]; exact HB9.out, HM9.out⟩
    · go_wp2_with fail
      go_ret
      obtain ⟨h1, h2, h3⟩ := H.out
      refine ⟨u4, rfl, ?_, h3⟩
      have : i = E.length := by omega
      subst this
      rw [List.take_length] at h2
      unfold nodeB
      rw [List.length_map, ← HO.out]
      exact h2
end Go.Proofs.YtkpiioiahdcpjaaDoor
