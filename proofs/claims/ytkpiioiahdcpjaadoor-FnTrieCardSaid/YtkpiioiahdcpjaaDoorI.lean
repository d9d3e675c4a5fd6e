/- The walk of spec.(*knot).info. -/
import Derived.Test.YtkpiioiahdcpjaaDoorT
import Derived.Deep.RegionHeld3
import Derived.BigQuiet
import Derived.Deep.RegionWith
namespace Go.Proofs.YtkpiioiahdcpjaaDoor
open Go.RowKit

set_option maxHeartbeats 400000 in
set_option maxRecDepth 100000 in
theorem info_none (k : Nat) (w : World) (hk : w.cell? ⟨k, 0, none⟩ = some (.pointer none)) :
    Calls Tryd.prog 24 #[.pointer (some ⟨k, 0, none⟩)] w fun e w' => e = .returned (.slice none 0 0) ∧ w = w' := by
  go_enter Tryd.func24, Tryd.ntmps24
  go_wp2_with fail
  go_ret
  exact ⟨rfl, rfl⟩

set_option maxHeartbeats 400000 in
set_option maxRecDepth 100000 in
theorem info_res (k b o : Nat) (e : Exp) (w : World) (hk : w.cell? ⟨k, 0, none⟩ = some (.pointer (some ⟨b, o, none⟩))) (he : ExpAt w b o e)
    (h1 : (uleb e.flags).length ≤ 16) (h2 : (uleb e.address).length ≤ 16) (h3 : (uleb e.other).length ≤ 16) (h4 : e.imp.size ≤ 60)
    (f8 : (bits .and .u64 (e.flags : Int) 8 != 0) = false) (f16 : (bits .and .u64 (e.flags : Int) 16 != 0) = true) (hi : infoB e = uleb e.flags ++ uleb e.address ++ uleb e.other) :
    Calls Tryd.prog 24 #[.pointer (some ⟨k, 0, none⟩)] w fun en w' => ∃ v, en = .returned v ∧ Byt w' w.heap.size v (infoB e) ∧ Mod Nowhere w w' := by
  have HI := Lib.hid hi
  clear hi
  have hbl := he.lt
  obtain ⟨e0, e1, e2, e3, e4⟩ := he
  go_enter Tryd.func24, Tryd.ntmps24
  go_wp2_with fail
  refine (unsigned_any e.flags _ h1).mono ?_
  rintro en w1 ⟨v1, rfl, hb, hm⟩
  have HW : Hid (Byt w1 w.heap.size v1 (uleb e.flags) ∧ Mod Nowhere w w1) := ⟨hb, hm⟩
  have e0 := hm.keeps e0 id
  have e1 := hm.keeps e1 id
  have e2 := hm.keeps e2 id
  have e3 := hm.keeps e3 id
  have e4 := hm.keeps e4 id
  clear hb hm hk
  go_wp2_with fail
  obtain ⟨hb1, hm1⟩ := HW
  have HB1 := Lib.hid hb1
  have HM1 := Lib.hid hm1
  clear hb1 hm1
  go_region_held3 (fun w' => w'.cell? ⟨b, o + 2, none⟩ = some (.int .u64 e.address) ∧ w'.cell? ⟨b, o + 3, none⟩ = some (.int .u64 e.other)) (first | go_keep | exact ⟨by assumption, by assumption⟩)
    ((first
      | (go_at_call_of 25 (e.address : Int)
         refine (unsigned_any e.address _ h2).mono ?_
         rintro en w2 ⟨v2, rfl, hb2, hm2⟩
         have e2a := hm2.undrew.keeps e2 id
         have e3a := hm2.undrew.keeps e3 id
         have HB2 := Lib.hid hb2
         have HM2 := Lib.hid (HM1.out.then hm2.undrew)
         have HB1a := Lib.hid (HB1.out.then hm2.undrew)
         clear hb2 hm2)
      | (refine st_append ?_ (.tmp 47) (.tmp 52) ?_ w.heap.size v1 (uleb e.flags) ?_ HB1a.out (uleb e.address) ?_ ?_ HM2.out.size ?_
         · rfl
         · rfl
         · rfl
         · exact HB2.out.src
         · omega
         intro v3 w3 hb3 hm3 hat3
         have hS : ¬ v1.ownBlock = some b := fun e => by have := HB1.out.lt _ e; omega
         have e2b := hm3.keeps e2a hS
         have e3b := hm3.keeps e3a hS
         have HB3 := Lib.hid hb3
         have HM3 : Hid (Mod Nowhere w w3) := (HM2.out.trans hm3 (fun x hx e => by have := HB1.out.lt x e; omega))
         clear hb3 hm3 hat3 hS)
      | (go_at_call_of 25 (e.other : Int)
         refine (unsigned_any e.other _ h3).mono ?_
         rintro en w4 ⟨v4, rfl, hb4, hm4⟩
         have e2c := hm4.keeps e2b id
         have e3c := hm4.keeps e3b id
         have HB4 := Lib.hid hb4
         have HM4 := Lib.hid (HM3.out.then hm4)
         have HB3a := Lib.hid (HB3.out.then hm4)
         clear hb4 hm4)
      | (refine st_append ?_ (.tmp 53) (.tmp 58) ?_ w.heap.size v3 (uleb e.flags ++ uleb e.address) ?_ HB3a.out (uleb e.other) ?_ ?_ HM4.out.size ?_
         · rfl
         · rfl
         · rfl
         · exact HB4.out.src
         · simp; omega
         intro v5 w5 hb5 hm5 hat5
         have hS : ¬ v3.ownBlock = some b := fun e => by have := HB3.out.lt _ e; omega
         have e2d := hm5.keeps e2c hS
         have e3d := hm5.keeps e3c hS
         have HB5 := Lib.hid hb5
         have HM5 : Hid (Mod Nowhere w w5) := (HM4.out.trans hm5 (fun x hx e => by have := HB3.out.lt x e; omega))
         clear hb5 hm5 hat5 hS)))
  go_wp2_with fail
  go_ret
  exact ⟨v5, rfl, by rw [HI.out]; exact HB5.out, HM5.out⟩

set_option maxHeartbeats 400000 in
set_option maxRecDepth 100000 in
theorem info_addr (k b o : Nat) (e : Exp) (w : World) (hk : w.cell? ⟨k, 0, none⟩ = some (.pointer (some ⟨b, o, none⟩))) (he : ExpAt w b o e)
    (h1 : (uleb e.flags).length ≤ 16) (h2 : (uleb e.address).length ≤ 16)
    (f8 : (bits .and .u64 (e.flags : Int) 8 != 0) = false) (f16 : (bits .and .u64 (e.flags : Int) 16 != 0) = false) (hi : infoB e = uleb e.flags ++ uleb e.address) :
    Calls Tryd.prog 24 #[.pointer (some ⟨k, 0, none⟩)] w fun en w' => ∃ v, en = .returned v ∧ Byt w' w.heap.size v (infoB e) ∧ Mod Nowhere w w' := by
  have HI := Lib.hid hi
  clear hi
  obtain ⟨e0, e1, e2, e3, e4⟩ := he
  go_enter Tryd.func24, Tryd.ntmps24
  go_wp2_with fail
  refine (unsigned_any e.flags _ h1).mono ?_
  rintro en w1 ⟨v1, rfl, hb, hm⟩
  have HB1 := Lib.hid hb
  have HM1 := Lib.hid hm
  have e1 := hm.keeps e1 id
  have e2 := hm.keeps e2 id
  clear hb hm hk e0 e3 e4
  go_wp2_with fail
  refine (unsigned_any e.address _ h2).mono ?_
  rintro en w2 ⟨v2, rfl, hb2, hm2⟩
  have HB2 := Lib.hid hb2
  have HM2 := Lib.hid (HM1.out.then hm2)
  have HB1a := Lib.hid (HB1.out.then hm2)
  clear hb2 hm2
  go_wp2_with (at_builtin; refine ev_append rfl (.tmp 60) (.tmp 65) rfl w.heap.size v1 (uleb e.flags) rfl HB1a.out (uleb e.address) HB2.out.src (by omega) HM2.out.size ?_; intro v3 w3 hb3 hm3 hat3; have HB3 := Lib.hid hb3; have HM3 : Hid (Mod Nowhere w w3) := (HM2.out.trans hm3 (fun x hx e => by have := HB1.out.lt x e; omega)); clear hb3 hm3 hat3)
  go_ret
  exact ⟨v3, rfl, by rw [HI.out]; exact HB3.out, HM3.out⟩

set_option maxHeartbeats 800000 in
set_option maxRecDepth 100000 in
theorem info_reexp (k b o : Nat) (e : Exp) (w : World) (hk : w.cell? ⟨k, 0, none⟩ = some (.pointer (some ⟨b, o, none⟩))) (he : ExpAt w b o e)
    (h1 : (uleb e.flags).length ≤ 16) (h3 : (uleb e.other).length ≤ 16) (h4 : e.imp.size ≤ 60)
    (f8 : (bits .and .u64 (e.flags : Int) 8 != 0) = true) (hi : infoB e = uleb e.flags ++ uleb e.other ++ e.imp.data.toList ++ [0]) :
    Calls Tryd.prog 24 #[.pointer (some ⟨k, 0, none⟩)] w fun en w' => ∃ v, en = .returned v ∧ Byt w' w.heap.size v (infoB e) ∧ Mod Nowhere w w' := by
  have HI := Lib.hid hi
  clear hi
  have hbl := he.lt
  obtain ⟨e0, e1, e2, e3, e4⟩ := he
  go_enter Tryd.func24, Tryd.ntmps24
  go_wp2_with fail
  refine (unsigned_any e.flags _ h1).mono ?_
  rintro en w1 ⟨v1, rfl, hb, hm⟩
  have HB := Lib.hid hb
  have HM := Lib.hid hm
  have e1 := hm.keeps e1 id
  have e3 := hm.keeps e3 id
  have e4 := hm.keeps e4 id
  have hlt : ∀ x, v1.ownBlock = some x → w.heap.size ≤ x := fun x e => (hb.lt x e).1
  have HLT := Lib.hid hlt
  clear hb hm hk e0 e2 hlt
  go_wp2_with fail
  go_region_held3 (fun w' => w'.cell? ⟨b, o + 3, none⟩ = some (.int .u64 e.other) ∧ w'.cell? ⟨b, o + 4, none⟩ = some (.string e.imp)) (first | go_keep | exact ⟨by assumption, by assumption⟩)
    ((first
      | (go_at_call_of 25 (e.other : Int)
         refine (unsigned_any e.other _ h3).mono ?_
         rintro en w2 ⟨v2, rfl, hb2, hm2⟩
         have e3a : w2.cell? ⟨b, o + 3, none⟩ = some (.int .u64 e.other) := hm2.keeps (by (with_reducible repeat (first | exact e3 | apply cell_alloc | apply cell_drew))) id
         have e4a : w2.cell? ⟨b, o + 4, none⟩ = some (.string e.imp) := hm2.keeps (by (with_reducible repeat (first | exact e4 | apply cell_alloc | apply cell_drew))) id
         have HB2 := Lib.hid hb2
         have HM2 : Hid (Mod Nowhere w w2) := (Mod.then (by (with_reducible repeat (first | exact HM.out | apply Mod.alloc | apply Mod.drew))) hm2)
         have HBa : Hid (Byt w2 w.heap.size v1 (uleb e.flags)) := (Byt.then (by (with_reducible repeat (first | exact HB.out | apply Byt.alloc | apply Byt.drew))) hm2)
         first
           | (with_reducible have HZ := Lib.hid ((ZOk.new (base := w.heap.size) (v := v1) (xs := uleb e.flags) (by (with_reducible repeat (first | exact HB.out | apply Byt.alloc | apply Byt.drew)))).then hm2))
           | (with_reducible have HZ := Lib.hid ((ZOk.new (base := w.heap.size) (v := v1) (xs := uleb e.flags) (by (with_reducible repeat (first | exact HB.out | apply Byt.alloc | apply Byt.drew)))).then hm2.undrew))
           | skip
         clear hb2 hm2)
      | (with_reducible refine st_gate (N := 32) rfl ?_
         refine st_append ?_ (.tmp 26) (.tmp 31) ?_ w.heap.size v1 (uleb e.flags) ?_ (by (with_reducible repeat (first | exact HBa.out | apply Byt.alloc | apply Byt.drew))) (uleb e.other) ?_ ?_ ?_ ?_
         · rfl
         · rfl
         · rfl
         · exact Byt.src (v := v2) (by (with_reducible repeat (first | exact HB2.out | apply Byt.alloc | apply Byt.drew)))
         · omega
         · exact Mod.size (S := Nowhere) (by (with_reducible repeat (first | exact HM2.out | apply Mod.alloc | apply Mod.drew)))
         intro v3 w3 hb3 hm3 hat3
         have hS : ¬ v1.ownBlock = some b := fun e => by have := HLT.out _ e; omega
         have e3b : w3.cell? ⟨b, o + 3, none⟩ = some (.int .u64 e.other) := hm3.keeps (by (with_reducible repeat (first | exact e3a | apply cell_alloc | apply cell_drew))) hS
         have e4b : w3.cell? ⟨b, o + 4, none⟩ = some (.string e.imp) := hm3.keeps (by (with_reducible repeat (first | exact e4a | apply cell_alloc | apply cell_drew))) hS
         have HB3 := Lib.hid hb3
         have HM3 : Hid (Mod Nowhere w w3) := Mod.trans (S := Nowhere) (by (with_reducible repeat (first | exact HM2.out | apply Mod.alloc | apply Mod.drew))) hm3 (fun x hx e => by have := HLT.out x e; omega)
         have HLT3 : Hid (∀ x, v3.ownBlock = some x → w.heap.size ≤ x) := fun x e => (hb3.lt x e).1
         first
           | (with_reducible have HZ := Lib.hid (HZ.out.app hm3 hat3))
           | (with_reducible have HZ := Lib.hid ((ZOk.new (base := w.heap.size) (v := v1) (xs := uleb e.flags) (by (with_reducible repeat (first | exact HBa.out | apply Byt.alloc | apply Byt.drew)))).app hm3 hat3))
           | skip
         clear hb3 hm3 hat3 hS)
      | (with_reducible refine st_gate (N := 37) rfl ?_
         refine st_append_str ?_ (.tmp 32) (.tmp 36) ?_ w.heap.size v3 (uleb e.flags ++ uleb e.other) ?_ (by (with_reducible repeat (first | exact HB3.out | apply Byt.alloc | apply Byt.drew))) e.imp ?_ ?_ ?_ ?_
         · rfl
         · rfl
         · rfl
         · rfl
         · simp; omega
         · exact Mod.size (S := Nowhere) (by (with_reducible repeat (first | exact HM3.out | apply Mod.alloc | apply Mod.drew)))
         intro v5 w5 hb5 hm5 hat5
         have hS : ¬ v3.ownBlock = some b := fun e => by have := HLT3.out _ e; omega
         have e3c : w5.cell? ⟨b, o + 3, none⟩ = some (.int .u64 e.other) := hm5.keeps (by (with_reducible repeat (first | exact e3b | apply cell_alloc | apply cell_drew))) hS
         have e4c : w5.cell? ⟨b, o + 4, none⟩ = some (.string e.imp) := hm5.keeps (by (with_reducible repeat (first | exact e4b | apply cell_alloc | apply cell_drew))) hS
         have HB5 := Lib.hid hb5
         have HM5 : Hid (Mod Nowhere w w5) := Mod.trans (S := Nowhere) (by (with_reducible repeat (first | exact HM3.out | apply Mod.alloc | apply Mod.drew))) hm5 (fun x hx e => by have := HLT3.out x e; omega)
         have HLT5 : Hid (∀ x, v5.ownBlock = some x → w.heap.size ≤ x) := fun x e => (hb5.lt x e).1
         first
           | (with_reducible have HZ := Lib.hid (HZ.out.app hm5 hat5))
           | (with_reducible have HZ := Lib.hid ((ZOk.new (base := w.heap.size) (v := v3) (xs := uleb e.flags ++ uleb e.other) (by (with_reducible repeat (first | exact HB3.out | apply Byt.alloc | apply Byt.drew)))).app hm5 hat5))
           | skip
         clear hb5 hm5 hat5 hS)
      | (with_reducible refine st_gate (N := 39) rfl ?_
         refine st_append ?_ (.tmp 37) (.tmp 38) ?_ w.heap.size v5 (uleb e.flags ++ uleb e.other ++ e.imp.data.toList) ?_ (by (with_reducible repeat (first | exact HB5.out | apply Byt.alloc | apply Byt.drew))) [0] ?_ ?_ ?_ ?_
         · rfl
         · rfl
         · rfl
         · first
             | exact src_one (b := 0) HZ.out.1 (by decide)
             | exact src_one (b := 0) (Blk.new _ 5 #[Value.int .u8 0]) (by decide)
         · have : e.imp.data.toList.length = e.imp.size := rfl
           simp only [List.length_append, this]; simp; omega
         · exact Mod.size (S := Nowhere) (by (with_reducible repeat (first | exact HM5.out | apply Mod.alloc | apply Mod.drew)))
         intro v7 w7 hb7 hm7 hat7
         have hS : ¬ v5.ownBlock = some b := fun e => by have := HLT5.out _ e; omega
         have e3d : w7.cell? ⟨b, o + 3, none⟩ = some (.int .u64 e.other) := hm7.keeps (by (with_reducible repeat (first | exact e3c | apply cell_alloc | apply cell_drew))) hS
         have e4d : w7.cell? ⟨b, o + 4, none⟩ = some (.string e.imp) := hm7.keeps (by (with_reducible repeat (first | exact e4c | apply cell_alloc | apply cell_drew))) hS
         have HB7 := Lib.hid hb7
         have HM7 : Hid (Mod Nowhere w w7) := Mod.trans (S := Nowhere) (by (with_reducible repeat (first | exact HM5.out | apply Mod.alloc | apply Mod.drew))) hm7 (fun x hx e => by have := HLT5.out x e; omega)
         clear hb7 hm7 hat7 hS)
      | fail))
  all_goals
    go_wp2_with fail
    go_ret
    exact ⟨v7, rfl, by rw [HI.out]; exact HB7.out, HM7.out⟩

theorem wraps_u64 (n : Int) (h0 : 0 ≤ n) (h1 : n < 2 ^ 8) : IntKind.u64.wrap n = n := by
  simp [IntKind.wrap, IntKind.bits, IntKind.signed]
  omega
theorem and_u64 (a c : Nat) (ha : a < 256) (hc : c < 256) : bits .and .u64 (a : Int) (c : Int) = ((a &&& c : Nat) : Int) :=
  (bits_nat .u64 8 (by decide) wraps_u64 a c (by omega) (by omega)).1

/-- An export that the trie's writer takes: its numbers and its text are short. -/
structure OkE (e : Exp) : Prop where
  fl : e.flags < 32
  ad : (uleb e.address).length ≤ 16
  ot : (uleb e.other).length ≤ 16
  im : e.imp.size ≤ 60

theorem info_any (k b o : Nat) (e : Exp) (w : World) (hk : w.cell? ⟨k, 0, none⟩ = some (.pointer (some ⟨b, o, none⟩))) (he : ExpAt w b o e) (ok : OkE e) :
    Calls Tryd.prog 24 #[.pointer (some ⟨k, 0, none⟩)] w fun en w' => ∃ v, en = .returned v ∧ Byt w' w.heap.size v (infoB e) ∧ Mod Nowhere w w' := by
  have hf : (uleb e.flags).length ≤ 16 := by rw [uleb_lt (by have := ok.fl; omega)]; simp
  have h8 : bits .and .u64 (e.flags : Int) 8 = ((e.flags &&& 8 : Nat) : Int) := and_u64 e.flags 8 (by have := ok.fl; omega) (by omega)
  have h16 : bits .and .u64 (e.flags : Int) 16 = ((e.flags &&& 16 : Nat) : Int) := and_u64 e.flags 16 (by have := ok.fl; omega) (by omega)
  by_cases c8 : e.flags &&& 8 = 0
  · have f8 : (bits .and .u64 (e.flags : Int) 8 != 0) = false := by rw [h8, c8]; rfl
    by_cases c16 : e.flags &&& 16 = 0
    · refine info_addr k b o e w hk he hf ok.ad f8 (by rw [h16, c16]; rfl) ?_
      simp [infoB, c8, c16]
    · refine info_res k b o e w hk he hf ok.ad ok.ot ok.im f8 (by rw [h16]; simp; omega) ?_
      simp [infoB, c8, c16]
  · refine info_reexp k b o e w hk he hf ok.ot ok.im (by rw [h8]; simp; omega) ?_
    simp [infoB, c8]
theorem infoB_len (e : Exp) (ok : OkE e) : (infoB e).length ≤ 100 := by
  have hf : (uleb e.flags).length = 1 := by rw [uleb_lt (by have := ok.fl; omega)]; rfl
  have h1 := ok.ad
  have h2 := ok.ot
  have h3 : e.imp.data.toList.length ≤ 60 := ok.im
  unfold infoB
  split
  · simp only [List.length_append, hf]; simp at h3 ⊢; omega
  · split
    · simp only [List.length_append, hf]; omega
    · simp only [List.length_append, hf]; omega
end Go.Proofs.YtkpiioiahdcpjaaDoor
