/- ReadExport. -/
import Derived.Test.YtkpiioiahdcpjaaDoorM
namespace Go.Proofs.YtkpiioiahdcpjaaDoor
open Go.RowKit

/-- Flags that go together; small numbers; a text of an import without a byte 0. -/
structure FlOk (e : Exp) : Prop where
  fl : e.flags < 32
  kind : e.flags &&& 3 ≠ 3
  ad : e.address ≤ 281474976710656
  ot : e.other ≤ 281474976710656
  imp : ∀ b ∈ e.imp.data.toList, b ≠ 0
  imz : e.imp.size ≤ 60
  re : e.flags &&& 8 ≠ 0 → e.flags &&& 16 = 0 ∧ e.address = 0
  stub : e.flags &&& 16 ≠ 0 → e.flags &&& 3 ≠ 2
  noim : e.flags &&& 8 = 0 → e.imp.size = 0
  noot : e.flags &&& 8 = 0 → e.flags &&& 16 = 0 → e.other = 0

/-- What is read of an export: its other number, its address. -/
def otherOf (e : Exp) (base : Nat) : Nat := if e.flags &&& 8 ≠ 0 then e.other else if e.flags &&& 16 ≠ 0 then e.address + base else 0
def addrOf (e : Exp) (base : Nat) : Nat := if e.flags &&& 8 ≠ 0 then 0 else if e.flags &&& 16 ≠ 0 then e.other + base else if e.flags &&& 3 = 2 then e.address else e.address + base
def expCells (sym : ByteArray) (e : Exp) (base : Nat) : Array Value := #[.string sym, .string e.imp, .int .i64 e.flags, .int .u64 (otherOf e base), .int .u64 (addrOf e base), .string ⟨#[]⟩]

def ReadPost (w : World) (r d c : Nat) (data : List UInt8) (sym : ByteArray) (e : Exp) (base : Nat) (en : Ending) (w' : World) : Prop :=
  ∃ t i', en = .returned (.tuple #[.pointer (some ⟨t, 0, none⟩), .nilIface]) ∧ w.heap.size ≤ t ∧ Blk w' t 65 (expCells sym e base) ∧ Rd w' r d c data i' ∧ Mod (fun x => x = r) w w'

theorem imp_nil {e : Exp} (ok : FlOk e) (c8 : e.flags &&& 8 = 0) : e.imp = ⟨#[]⟩ := by
  have h := ok.noim c8
  apply ByteArray.ext
  exact Array.eq_empty_of_size_eq_zero h
theorem kinds {e : Exp} (ok : FlOk e) : e.flags &&& 3 = 0 ∨ e.flags &&& 3 = 1 ∨ e.flags &&& 3 = 2 := by
  have h1 := ok.kind
  have h2 : e.flags &&& 3 ≤ 3 := Nat.and_le_right
  omega

set_option maxHeartbeats 800000 in
set_option maxRecDepth 100000 in
theorem read_plain (w : World) (r d c i base : Nat) (data rest : List UInt8) (sym : ByteArray) (e : Exp) (h : Rd w r d c data i) (ok : FlOk e) (hb : base ≤ 1099511627776) (c8 : e.flags &&& 8 = 0) (c16 : e.flags &&& 16 = 0)
    (hd : data.drop i = uleb e.flags ++ (uleb e.address ++ rest)) :
    Calls Tryd.prog 35 #[.pointer (some ⟨r, 0, none⟩), .string sym, .int .u64 base] w (ReadPost w r d c data sym e base) := by
  have H := Lib.hid h
  have OK := Lib.hid ok
  have hfl : e.flags < 32 := ok.fl
  have had : e.address ≤ 281474976710656 := ok.ad
  have hot : e.other ≤ 281474976710656 := ok.ot
  have him := Lib.hid (imp_nil ok c8)
  have hk := kinds ok
  have hd2 : Hid (data.drop (i + (uleb e.flags).length) = uleb e.address ++ rest) := by
    show _ = _
    rw [← List.drop_drop, hd, List.drop_left]
  have HD := Lib.hid hd
  clear h ok hd
  go_enter Tryd.func35, Tryd.ntmps35
  go_wp2_with fail
  refine (readUleb_any w r d c i e.flags data _ H.out HD.out (by omega)).mono ?_
  rintro en w1 ⟨rfl, h1, m1⟩
  have H1 := Lib.hid h1
  have M1 := Lib.hid m1
  clear h1 m1
  go_wp2_with fail
  refine (flag_re w1 e.flags hfl).mono ?_
  rintro en w2 ⟨rfl, rfl⟩
  have f8 : (e.flags &&& 8 != 0) = false := by rw [c8]; rfl
  go_wp2_with fail
  refine (flag_stub w2 e.flags hfl).mono ?_
  rintro en w3 ⟨rfl, rfl⟩
  have f16 : (e.flags &&& 16 != 0) = false := by rw [c16]; rfl
  go_wp2_with fail
  refine (readUleb_any w3 r d c _ e.address data rest H1.out hd2.out (by omega)).mono ?_
  rintro en w4 ⟨rfl, h4, m4⟩
  have H4 := Lib.hid h4
  have M4 := Lib.hid (M1.out.trans m4 fun _ _ h => h)
  clear h4 m4
  go_wp2_with fail
  rcases hk with hk0 | hk1 | hk2
  · refine (flag_reg w4 e.flags hfl).mono ?_
    rintro en w5 ⟨rfl, rfl⟩
    have f3 : (e.flags &&& 3 == 0) = true := by rw [hk0]; rfl
    go_wp2_with fail
    go_ret2
    refine ⟨w5.heap.size, _, rfl, M4.out.size, ?_, H4.out.then ((Mod.refl _ _).alloc _), M4.out.then ((Mod.refl _ _).alloc _)⟩
    have hc : expCells sym e base = #[.string sym, .string ⟨#[]⟩, .int .i64 e.flags, .int .u64 ((0 : Int)), .int .u64 ((e.address : Int) + base), .string ⟨#[]⟩] := by
      simp [expCells, otherOf, addrOf, c8, c16, hk0, him.out]
    rw [hc]
    exact Blk.new w5 65 _
  · refine (flag_reg w4 e.flags hfl).mono ?_
    rintro en w5 ⟨rfl, rfl⟩
    have f3 : (e.flags &&& 3 == 0) = false := by rw [hk1]; rfl
    go_wp2_with fail
    refine (flag_tls w5 e.flags hfl).mono ?_
    rintro en w6 ⟨rfl, rfl⟩
    have f4 : (e.flags &&& 3 == 1) = true := by rw [hk1]; rfl
    go_wp2_with fail
    go_ret2
    refine ⟨w6.heap.size, _, rfl, M4.out.size, ?_, H4.out.then ((Mod.refl _ _).alloc _), M4.out.then ((Mod.refl _ _).alloc _)⟩
    have hc : expCells sym e base = #[.string sym, .string ⟨#[]⟩, .int .i64 e.flags, .int .u64 ((0 : Int)), .int .u64 ((e.address : Int) + base), .string ⟨#[]⟩] := by
      simp [expCells, otherOf, addrOf, c8, c16, hk1, him.out]
    rw [hc]
    exact Blk.new w6 65 _
  · refine (flag_reg w4 e.flags hfl).mono ?_
    rintro en w5 ⟨rfl, rfl⟩
    have f3 : (e.flags &&& 3 == 0) = false := by rw [hk2]; rfl
    go_wp2_with fail
    refine (flag_tls w5 e.flags hfl).mono ?_
    rintro en w6 ⟨rfl, rfl⟩
    have f4 : (e.flags &&& 3 == 1) = false := by rw [hk2]; rfl
    go_wp2_with fail
    go_ret2
    refine ⟨w6.heap.size, _, rfl, M4.out.size, ?_, H4.out.then ((Mod.refl _ _).alloc _), M4.out.then ((Mod.refl _ _).alloc _)⟩
    have hc : expCells sym e base = #[.string sym, .string ⟨#[]⟩, .int .i64 e.flags, .int .u64 ((0 : Int)), .int .u64 (e.address), .string ⟨#[]⟩] := by
      simp [expCells, otherOf, addrOf, c8, c16, hk2, him.out]
    rw [hc]
    exact Blk.new w6 65 _

set_option maxHeartbeats 800000 in
set_option maxRecDepth 100000 in
theorem read_stub (w : World) (r d c i base : Nat) (data rest : List UInt8) (sym : ByteArray) (e : Exp) (h : Rd w r d c data i) (ok : FlOk e) (hb : base ≤ 1099511627776) (c8 : e.flags &&& 8 = 0) (c16 : e.flags &&& 16 ≠ 0)
    (hd : data.drop i = uleb e.flags ++ (uleb e.address ++ (uleb e.other ++ rest))) :
    Calls Tryd.prog 35 #[.pointer (some ⟨r, 0, none⟩), .string sym, .int .u64 base] w (ReadPost w r d c data sym e base) := by
  have H := Lib.hid h
  have OK := Lib.hid ok
  have hfl : e.flags < 32 := ok.fl
  have had : e.address ≤ 281474976710656 := ok.ad
  have hot : e.other ≤ 281474976710656 := ok.ot
  have him := Lib.hid (imp_nil ok c8)
  have hk := kinds ok
  have hd2 : Hid (data.drop (i + (uleb e.flags).length) = uleb e.address ++ (uleb e.other ++ rest)) := by
    show _ = _
    rw [← List.drop_drop, hd, List.drop_left]
  have hd3 : Hid (data.drop (i + (uleb e.flags).length + (uleb e.address).length) = uleb e.other ++ rest) := by
    show _ = _
    rw [← List.drop_drop, hd2.out, List.drop_left]
  have hk : e.flags &&& 3 = 0 ∨ e.flags &&& 3 = 1 := by have := ok.stub c16; omega
  have HD := Lib.hid hd
  clear h ok hd
  go_enter Tryd.func35, Tryd.ntmps35
  go_wp2_with fail
  refine (readUleb_any w r d c i e.flags data _ H.out HD.out (by omega)).mono ?_
  rintro en w1 ⟨rfl, h1, m1⟩
  have H1 := Lib.hid h1
  have M1 := Lib.hid m1
  clear h1 m1
  go_wp2_with fail
  refine (flag_re w1 e.flags hfl).mono ?_
  rintro en w2 ⟨rfl, rfl⟩
  have f8 : (e.flags &&& 8 != 0) = false := by rw [c8]; rfl
  go_wp2_with fail
  refine (flag_stub w2 e.flags hfl).mono ?_
  rintro en w3 ⟨rfl, rfl⟩
  have f16 : (e.flags &&& 16 != 0) = true := bne_iff_ne.2 c16
  go_wp2_with fail
  refine (readUleb_any w3 r d c _ e.address data _ H1.out hd2.out (by omega)).mono ?_
  rintro en w3a ⟨rfl, h3a, m3a⟩
  have H3 := Lib.hid h3a
  have M3 := Lib.hid (M1.out.trans m3a fun _ _ h => h)
  clear h3a m3a
  go_wp2_with fail
  refine (readUleb_any w3a r d c _ e.other data rest H3.out hd3.out (by omega)).mono ?_
  rintro en w4 ⟨rfl, h4, m4⟩
  have H4 := Lib.hid h4
  have M4 := Lib.hid (M3.out.trans m4 fun _ _ h => h)
  clear h4 m4
  go_wp2_with fail
  rcases hk with hk0 | hk1
  · refine (flag_reg w4 e.flags hfl).mono ?_
    rintro en w5 ⟨rfl, rfl⟩
    have f3 : (e.flags &&& 3 == 0) = true := by rw [hk0]; rfl
    go_wp2_with fail
    go_ret2
    refine ⟨w5.heap.size, _, rfl, M4.out.size, ?_, H4.out.then ((Mod.refl _ _).alloc _), M4.out.then ((Mod.refl _ _).alloc _)⟩
    have hc : expCells sym e base = #[.string sym, .string ⟨#[]⟩, .int .i64 e.flags, .int .u64 ((e.address : Int) + base), .int .u64 ((e.other : Int) + base), .string ⟨#[]⟩] := by
      simp [expCells, otherOf, addrOf, c8, c16, hk0, him.out]
    rw [hc]
    exact Blk.new w5 65 _
  · refine (flag_reg w4 e.flags hfl).mono ?_
    rintro en w5 ⟨rfl, rfl⟩
    have f3 : (e.flags &&& 3 == 0) = false := by rw [hk1]; rfl
    go_wp2_with fail
    refine (flag_tls w5 e.flags hfl).mono ?_
    rintro en w6 ⟨rfl, rfl⟩
    have f4 : (e.flags &&& 3 == 1) = true := by rw [hk1]; rfl
    go_wp2_with fail
    go_ret2
    refine ⟨w6.heap.size, _, rfl, M4.out.size, ?_, H4.out.then ((Mod.refl _ _).alloc _), M4.out.then ((Mod.refl _ _).alloc _)⟩
    have hc : expCells sym e base = #[.string sym, .string ⟨#[]⟩, .int .i64 e.flags, .int .u64 ((e.address : Int) + base), .int .u64 ((e.other : Int) + base), .string ⟨#[]⟩] := by
      simp [expCells, otherOf, addrOf, c8, c16, hk1, him.out]
    rw [hc]
    exact Blk.new w6 65 _

end Go.Proofs.YtkpiioiahdcpjaaDoor
