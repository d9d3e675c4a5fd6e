/- ReadExport of a re-exported symbol; ReadExport, whole. -/
import Derived.Test.YtkpiioiahdcpjaaDoorO
import Derived.Lib.BufferRead
namespace Go.Proofs.YtkpiioiahdcpjaaDoor
open Go.RowKit

theorem byt_string {w : World} {base : Nat} {v : Value} {xs : List UInt8} (h : Byt w base v xs) (h0 : 0 < xs.length) : (convert 29 9 v).run Tryd.prog w = .ok (.string ⟨xs.toArray⟩) w := by
  obtain ⟨g, cap, rfl, _, _⟩ := World.ownsRow.form h h0
  refine run_convert_bytes_back w 29 9 5 ⟨g, 0, none⟩ cap xs Tryd.underlying29 Tryd.underlying5 Tryd.underlying9 fun j hj => ?_
  rw [Addr.add_lit, Nat.zero_add]
  have h2 := World.ownsRow.cellAt h j (by omega)
  rw [h2]
  simp [u8s, hj]

theorem imp_bytes (e : Exp) : (⟨e.imp.data.toList.toArray⟩ : ByteArray) = e.imp := by
  apply ByteArray.ext; simp

set_option maxHeartbeats 800000 in
set_option maxRecDepth 100000 in
theorem read_re (w : World) (r d c i base : Nat) (data rest : List UInt8) (sym : ByteArray) (e : Exp) (h : Rd w r d c data i) (ok : FlOk e) (c8 : e.flags &&& 8 ≠ 0)
    (hd : data.drop i = uleb e.flags ++ (uleb e.other ++ (e.imp.data.toList ++ 0 :: rest))) :
    Calls Tryd.prog 35 #[.pointer (some ⟨r, 0, none⟩), .string sym, .int .u64 base] w (ReadPost w r d c data sym e base) := by
  have H := Lib.hid h
  have OK := Lib.hid ok
  have hfl : e.flags < 32 := ok.fl
  have hot : e.other ≤ 281474976710656 := ok.ot
  have hd2 : Hid (data.drop (i + (uleb e.flags).length) = uleb e.other ++ (e.imp.data.toList ++ 0 :: rest)) := by
    show _ = _
    rw [← List.drop_drop, hd, List.drop_left]
  have hd3 : Hid (data.drop (i + (uleb e.flags).length + (uleb e.other).length) = e.imp.data.toList ++ 0 :: rest) := by
    show _ = _
    rw [← List.drop_drop, hd2.out, List.drop_left]
  have HD := Lib.hid hd
  have hr0 : r < w.heap.size := h.lt_r
  have hdl : d < w.heap.size := h.lt
  have himz : e.imp.data.toList.length ≤ 60 := ok.imz
  clear h ok hd
  go_enter Tryd.func35, Tryd.ntmps35
  go_wp2_with fail
  refine (readUleb_any w r d c i e.flags data _ H.out HD.out (by omega)).mono ?_
  rintro en w1 ⟨rfl, h1, m1⟩
  have H1 := Lib.hid h1
  have M1 := Lib.hid m1
  clear h1 m1
  go_wp2_with fail
  refine (flag_re w1 e.flags hfl).mono ?_
  rintro en w2 ⟨rfl, rfl⟩
  have f8 : (e.flags &&& 8 != 0) = true := bne_iff_ne.2 c8
  go_wp2_with fail
  refine (readUleb_any w2 r d c _ e.other data _ H1.out hd2.out (by omega)).mono ?_
  rintro en w3 ⟨rfl, h3, m3⟩
  have H3 := Lib.hid h3
  have M3 := Lib.hid (M1.out.trans m3 fun _ _ h => h)
  clear h3 m3
  generalize i + (uleb e.flags).length + (uleb e.other).length = j0 at *
  generalize hxs : e.imp.data.toList = xs at *
  go_wp2_with fail
  go_loopg [11] xs.length (fun kq v11 wr => Hid (∃ k, kq = xs.length - k ∧ k ≤ xs.length ∧ Byt wr w.heap.size v11 (xs.take k) ∧ Rd wr r d c data (j0 + k) ∧ Mod (fun x => x = r) w wr))
  case atStart => exact ⟨0, rfl, Nat.zero_le _, Byt.nil _ _, H3.out, M3.out⟩
  case round =>
    obtain ⟨k, hkq, hk, hby, hrd, hmod⟩ := hrel.out
    have HKQ := Lib.hid hkq
    have HBY := Lib.hid hby
    have HRD := Lib.hid hrd
    have HM := Lib.hid hmod
    clear hrel hkq hby hrd hmod
    by_cases hlt : k < xs.length
    · have hbj : data[j0 + k]? = some xs[k] := by
        have : (data.drop j0)[k]? = some xs[k] := by rw [hd3.out, List.getElem?_append_left hlt, List.getElem?_eq_getElem hlt]
        simpa using this
      have hne : xs[k] ≠ 0 := OK.out.imp _ (by rw [hxs]; exact List.getElem_mem hlt)
      have HT : Hid (xs.take (k + 1) = xs.take k ++ [xs[k]]) := by
        show _ = _
        rw [List.take_add_one, List.getElem?_eq_getElem hlt]; rfl
      generalize xs[k] = b at *
      have hz : ((b.toNat : Int) == 0) = false := by
        rw [beq_eq_false_iff_ne]
        intro e0
        exact hne (by apply UInt8.toNat_inj.1; simp; omega)
      go_wp2_with fail
      refine (readByte_any wr r d c (j0 + k) data HRD.out b hbj).mono ?_
      rintro en w5 ⟨rfl, h5, m5⟩
      have HB5 := Lib.hid (HBY.out.keep m5 (fun x hx e => by omega))
      have H5 := Lib.hid h5
      have M5 := Lib.hid (HM.out.trans m5 fun _ _ h => h)
      clear h5 m5
      go_wp2_with (at_builtin; (refine ev_append rfl (.tmp 47) (.tmp 49) rfl w.heap.size u11 (xs.take k) rfl (HB5.out.then ((Mod.refl _ _).alloc _)) [b] (src_one (Blk.new w5 5 _) rfl) (by simp; omega) ((M5.out.alloc _).size) ?_; intro v6 w6 hA hB hC; have HA := Lib.hid hA; have HB6 := Lib.hid hB; clear hA hB hC))
      have hkeep : Hid (Mod (fun x => w.heap.size ≤ x) w5 w6) := (((Mod.refl Nowhere w5).alloc _).any _).trans HB6.out fun x _ hx => (HB5.out.lt x hx).1
      go_roundg (xs.length - (k + 1))
      case measure => have := HKQ.out; omega
      case rel =>
        refine ⟨k + 1, rfl, hlt, ?_, H5.out.keep hkeep.out (by omega) (by omega) (by omega), M5.out.trans hkeep.out fun x hx h => by omega⟩
        rw [HT.out]; exact HA.out
    · have hke : k = xs.length := by omega
      subst hke
      have hbj : data[j0 + xs.length]? = some (0 : UInt8) := by
        have : (data.drop j0)[xs.length]? = some (0 : UInt8) := by rw [hd3.out, List.getElem?_append_right (Nat.le_refl _)]; simp
        simpa using this
      have hz : (((0 : UInt8).toNat : Int) == 0) = true := rfl
      have hby : Byt wr w.heap.size u11 xs := by have := HBY.out; rwa [List.take_length] at this
      go_wp2_with fail
      refine (readByte_any wr r d c (j0 + xs.length) data HRD.out 0 hbj).mono ?_
      rintro en w5 ⟨rfl, h5, m5⟩
      have HB5 := Lib.hid (hby.keep m5 (fun x hx e => by omega))
      have H5 := Lib.hid h5
      have M5 := Lib.hid (HM.out.trans m5 fun _ _ h => h)
      obtain ⟨A, cc, rfl, hcc⟩ := hby.slice
      clear h5 m5 hby HBY
      by_cases hx0 : xs.length = 0
      · have hgt : decide ((xs.length : Int) > 0) = false := by rw [decide_eq_false_iff_not]; omega
        go_wp2_with fail
        go_ret2
        refine ⟨w5.heap.size, _, rfl, M5.out.size, ?_, H5.out.then ((Mod.refl _ _).alloc _), M5.out.then ((Mod.refl _ _).alloc _)⟩
        have hc : expCells sym e base = #[.string sym, .string ⟨#[]⟩, .int .i64 e.flags, .int .u64 e.other, .int .u64 0, .string ⟨#[]⟩] := by
          have hi : e.imp = ⟨#[]⟩ := by
            rw [← imp_bytes e, hxs, List.eq_nil_of_length_eq_zero hx0]
          simp [expCells, otherOf, addrOf, c8, hi]
        rw [hc]
        exact Blk.new w5 65 _
      · have hgt : ((xs.length : Int) > 0) := by omega
        have hconv := byt_string HB5.out (by omega)
        go_wp2_with fail
        go_ret2
        refine ⟨w5.heap.size, _, rfl, M5.out.size, ?_, H5.out.then ((Mod.refl _ _).alloc _), M5.out.then ((Mod.refl _ _).alloc _)⟩
        have hc : expCells sym e base = #[.string sym, .string ⟨xs.toArray⟩, .int .i64 e.flags, .int .u64 e.other, .int .u64 0, .string ⟨#[]⟩] := by
          have hi : e.imp = ⟨xs.toArray⟩ := by
            rw [← imp_bytes e, hxs]
          simp [expCells, otherOf, addrOf, c8, hi]
        rw [hc]
        exact Blk.new w5 65 _

/-- ReadExport, whole. -/
theorem read_any (w : World) (r d c i base : Nat) (data rest : List UInt8) (sym : ByteArray) (e : Exp) (h : Rd w r d c data i) (ok : FlOk e) (hb : base ≤ 1099511627776) (hd : data.drop i = infoB e ++ rest) :
    Calls Tryd.prog 35 #[.pointer (some ⟨r, 0, none⟩), .string sym, .int .u64 base] w (ReadPost w r d c data sym e base) := by
  unfold infoB at hd
  by_cases c8 : e.flags &&& 8 = 0
  · rw [if_neg (by simpa using c8)] at hd
    by_cases c16 : e.flags &&& 16 = 0
    · rw [if_neg (by simpa using c16)] at hd
      exact read_plain w r d c i base data rest sym e h ok hb c8 c16 (by rw [hd]; simp)
    · rw [if_pos c16] at hd
      exact read_stub w r d c i base data rest sym e h ok hb c8 c16 (by rw [hd]; simp)
  · rw [if_pos c8] at hd
    exact read_re w r d c i base data rest sym e h ok c8 (by rw [hd]; simp)

end Go.Proofs.YtkpiioiahdcpjaaDoor
