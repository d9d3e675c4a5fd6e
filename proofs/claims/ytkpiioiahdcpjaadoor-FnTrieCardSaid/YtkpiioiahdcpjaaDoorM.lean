/- ReadUleb128. -/
import Derived.Test.YtkpiioiahdcpjaaDoorK
namespace Go.Proofs.YtkpiioiahdcpjaaDoor
open Go.RowKit

theorem wrap_u64_nat (n : Nat) (h : n < 18446744073709551616) : IntKind.u64.wrap (n : Int) = n := by
  simp [IntKind.wrap, IntKind.bits, IntKind.signed]
  omega
theorem wraps64 (n : Int) (h0 : 0 ≤ n) (h1 : n < 2 ^ 64) : IntKind.u64.wrap n = n := by
  obtain ⟨m, rfl⟩ := Int.eq_ofNat_of_zero_le h0
  exact wrap_u64_nat m (by omega)
theorem and_127 (a : Nat) : a &&& 127 = a % 128 := Nat.and_two_pow_sub_one_eq_mod a 7
theorem acc_step (b acc k x : Nat) (hb : b < 256) (hx : b % 128 = x) (ha : acc < 2 ^ (7 * k)) (hs : acc + x * 2 ^ (7 * k) < 18446744073709551616) :
    bits .or .u64 (acc : Int) (IntKind.u64.wrap (bits .and .u64 (b : Int) 127 * 2 ^ (7 * k))) = ((acc + x * 2 ^ (7 * k) : Nat) : Int) := by
  rw [show (127 : Int) = ((127 : Nat) : Int) from rfl, and_u64 b 127 hb (by omega), and_127, hx]
  rw [show ((x : Nat) : Int) * 2 ^ (7 * k) = ((x * 2 ^ (7 * k) : Nat) : Int) by push_cast; rfl, wrap_u64_nat _ (by omega)]
  rw [(bits_nat .u64 64 (by decide) wraps64 acc (x * 2 ^ (7 * k)) (by omega) (by omega)).2]
  rw [Nat.or_comm, Nat.mul_comm, ← Nat.two_pow_add_eq_or_of_lt ha, Nat.add_comm]
theorem and_u8 (a c : Nat) (ha : a < 256) (hc : c < 256) : bits .and .u8 (a : Int) (c : Int) = ((a &&& c : Nat) : Int) := (bits_nat .u8 8 (by decide) wraps_u8 a c (by omega) (by omega)).1
theorem and_128_lo : ∀ a : Nat, a < 128 → a &&& 128 = 0 := by decide +kernel
theorem and_128_hi : ∀ a : Nat, a < 128 → (a + 128) &&& 128 = 128 := by decide +kernel

set_option maxHeartbeats 400000 in
set_option maxRecDepth 100000 in
theorem readUleb_any (w : World) (r d c i n : Nat) (data rest : List UInt8) (h : Rd w r d c data i) (hd : data.drop i = uleb n ++ rest) (hn : n < 18446744073709551616) :
    Calls Tryd.prog 50 #[.pointer (some ⟨r, 0, none⟩)] w fun e w' => e = .returned (.tuple #[.int .u64 n, .nilIface]) ∧ Rd w' r d c data (i + (uleb n).length) ∧ Mod (fun x => x = r) w w' := by
  have H := Lib.hid h
  have HD := Lib.hid hd
  have HN := Lib.hid hn
  clear h hd hn
  go_enter Tryd.func50, Tryd.ntmps50
  go_wp2_with fail
  go_loopg [4, 5] (uleb n).length (fun kq v4 v5 wr => ∃ (m k acc : Nat), v4 = .int .u64 acc ∧ v5 = .int .u64 ((7 * k : Nat) : Int) ∧ k ≤ 9 ∧ Hid (kq = (uleb m).length ∧ n = acc + m * 2 ^ (7 * k) ∧ acc < 2 ^ (7 * k) ∧ ∃ j, data.drop j = uleb m ++ rest ∧ j + (uleb m).length = i + (uleb n).length ∧ Rd wr r d c data j ∧ Mod (fun x => x = r) w wr))
  case atStart => exact ⟨n, 0, 0, rfl, rfl, by omega, rfl, by omega, by simp, i, HD.out, rfl, H.out, Mod.refl _ _⟩
  case round =>
    obtain ⟨m, k, acc, rfl, rfl, hk, HH⟩ := hrel
    obtain ⟨hkq, hacc, haccl, j, hj, hjl, hr, hmod⟩ := HH.out
    clear HH
    obtain ⟨et, ev, heof⟩ := hr.eof
    obtain ⟨b, tl, hb⟩ : ∃ b tl, uleb m = b :: tl := by
      have := uleb_pos m
      cases hu : uleb m with
      | nil => rw [hu] at this; simp at this
      | cons b tl => exact ⟨b, tl, rfl⟩
    have hbj : data[j]? = some b := by
      have : (data.drop j)[0]? = some b := by rw [hj, hb]; rfl
      simpa using this
    have HR := Lib.hid hr
    have HMOD := Lib.hid hmod
    have HKQ := Lib.hid hkq
    have HACC := Lib.hid hacc
    have HACCL := Lib.hid haccl
    have HJ := Lib.hid hj
    have HJL := Lib.hid hjl
    have HB := Lib.hid hb
    have hr0 : r ≠ 0 := hr.ne0
    clear hr hmod hkq hacc haccl hj hjl hb
    go_wp2_with fail
    refine (readByte_any wr r d c j data HR.out b hbj).mono ?_
    rintro en w1 ⟨rfl, h1, h2⟩
    have heof1 : w1.cell? ⟨0, 0, none⟩ = some (.iface et ev) := h2.keeps heof (fun e => hr0 e.symm)
    have hcmp := eql_nil_held w1 et ev
    have H1 := Lib.hid h1
    have H2 := Lib.hid h2
    clear h1 h2
    have hb256 : b.toNat < 256 := b.toNat_lt
    by_cases hm : m < 128
    · have hb' := HB.out
      rw [uleb_lt hm] at hb'
      injection hb' with hb1 hb2
      have hbm : b.toNat = m := by rw [← hb1, UInt8.toNat_ofNat']; omega
      have h80 : (bits .and .u8 (b.toNat : Int) 128 == 0) = true := by
        rw [show (128 : Int) = ((128 : Nat) : Int) from rfl, and_u8 b.toNat 128 hb256 (by omega), hbm, and_128_lo m hm]; rfl
      have hstep : Hid (bits .or .u64 (acc : Int) (IntKind.u64.wrap (bits .and .u64 (b.toNat : Int) 127 * 2 ^ (7 * k))) = (n : Int)) := by
        have := HN.out
        have h2 := HACC.out
        have h3 := acc_step b.toNat acc k m hb256 (by omega) HACCL.out (by omega)
        show _ = _
        rw [h3, h2]
      clear hbm hb1 hb2
      go_wp2_with fail
      go_ret2
      refine ⟨by rw [hstep.out]; rfl, ?_, HMOD.out.trans H2.out fun x _ hx => hx⟩
      have h1 := HJL.out
      rw [uleb_lt hm] at h1
      have e : i + (uleb n).length = j + 1 := by simpa using h1.symm
      rw [e]
      exact H1.out
    · have hb' := HB.out
      rw [uleb_ge (by omega)] at hb'
      injection hb' with hb1 hb2
      have hbm : b.toNat = m % 128 + 128 := by rw [← hb1, UInt8.toNat_ofNat']; omega
      have h80 : (bits .and .u8 (b.toNat : Int) 128 == 0) = false := by
        rw [show (128 : Int) = ((128 : Nat) : Int) from rfl, and_u8 b.toNat 128 hb256 (by omega), hbm, and_128_hi (m % 128) (by omega)]; rfl
      have hpow : 2 ^ (7 * (k + 1)) = 128 * 2 ^ (7 * k) := by rw [show 7 * (k + 1) = 7 + 7 * k by omega, Nat.pow_add]
      have hsplit : m * 2 ^ (7 * k) = (m % 128) * 2 ^ (7 * k) + (m / 128) * 2 ^ (7 * (k + 1)) := by
        rw [hpow, ← Nat.mul_assoc, ← Nat.add_mul]
        congr 1
        omega
      have hstep : Hid (bits .or .u64 (acc : Int) (IntKind.u64.wrap (bits .and .u64 (b.toNat : Int) 127 * 2 ^ (7 * k))) = ((acc + (m % 128) * 2 ^ (7 * k) : Nat) : Int)) := by
        have := HN.out
        have h2 := HACC.out
        exact acc_step b.toNat acc k (m % 128) hb256 (by omega) HACCL.out (by omega)
      have HP := Lib.hid hpow
      have HS := Lib.hid hsplit
      have hk8 : k ≤ 8 := by
        have h1 := HN.out
        have h2 := HACC.out
        rcases Nat.lt_or_ge k 9 with h | h
        · omega
        · exfalso
          have e : k = 9 := by omega
          subst e
          have : (m / 128) * 2 ^ (7 * (9 + 1)) ≥ 1 * 2 ^ (7 * (9 + 1)) := Nat.mul_le_mul_right _ (by omega)
          have h3 : (2 : Nat) ^ (7 * (9 + 1)) = 1180591620717411303424 := by decide
          omega
      clear hbm hb1 hb2 hpow hsplit
      go_wp2_with fail
      go_roundg (uleb (m / 128)).length
      case measure => rw [HKQ.out, uleb_ge (n := m) (by omega)]; simp
      case rel =>
        refine ⟨m / 128, k + 1, acc + (m % 128) * 2 ^ (7 * k), by rw [hstep.out], by go_num, by omega, rfl, ?_, ?_, j + 1, ?_, ?_, H1.out, HMOD.out.trans H2.out fun x _ hx => hx⟩
        · have := HACC.out; have := HS.out; omega
        · have := HACCL.out
          rw [HP.out]
          have : (m % 128) * 2 ^ (7 * k) ≤ 127 * 2 ^ (7 * k) := Nat.mul_le_mul_right _ (by omega)
          omega
        · have h1 := HJ.out
          rw [uleb_ge (n := m) (by omega)] at h1
          rw [← List.drop_drop, h1]; rfl
        · have h1 := HJL.out
          rw [uleb_ge (n := m) (by omega)] at h1
          simp only [List.length_cons] at h1
          omega
end Go.Proofs.YtkpiioiahdcpjaaDoor

/- Flags of exports. -/
namespace Go.Proofs.YtkpiioiahdcpjaaDoor
open Go.RowKit

theorem wraps_i64 (n : Int) (h0 : 0 ≤ n) (h1 : n < 2 ^ 8) : IntKind.i64.wrap n = n := by
  simp [IntKind.wrap, IntKind.bits, IntKind.signed]
  omega
theorem and_i64 (a c : Nat) (ha : a < 256) (hc : c < 256) : bits .and .i64 (a : Int) (c : Int) = ((a &&& c : Nat) : Int) :=
  (bits_nat .i64 8 (by decide) wraps_i64 a c (by omega) (by omega)).1
theorem nat_beq (a b : Nat) : ((a : Int) == (b : Int)) = (a == b) := by
  rw [Bool.eq_iff_iff, beq_iff_eq, beq_iff_eq]; omega
theorem nat_bne (a b : Nat) : ((a : Int) != (b : Int)) = (a != b) := by
  unfold bne; rw [nat_beq]

set_option maxRecDepth 100000 in
theorem flag_re (w : World) (f : Nat) (hf : f < 32) : Calls Tryd.prog 51 #[.int .i64 f] w fun e w' => e = .returned (.bool (f &&& 8 != 0)) ∧ w' = w := by
  have h : bits .and .i64 (f : Int) 8 = ((f &&& 8 : Nat) : Int) := and_i64 f 8 (by omega) (by omega)
  go_enter Tryd.func51, Tryd.ntmps51
  go_wp2_with fail
  go_ret
  refine ⟨?_, rfl⟩
  exact congrArg (fun b => Ending.returned (.bool b)) (nat_bne (f &&& 8) 0)

set_option maxRecDepth 100000 in
theorem flag_stub (w : World) (f : Nat) (hf : f < 32) : Calls Tryd.prog 53 #[.int .i64 f] w fun e w' => e = .returned (.bool (f &&& 16 != 0)) ∧ w' = w := by
  have h : bits .and .i64 (f : Int) 16 = ((f &&& 16 : Nat) : Int) := and_i64 f 16 (by omega) (by omega)
  go_enter Tryd.func53, Tryd.ntmps53
  go_wp2_with fail
  go_ret
  refine ⟨?_, rfl⟩
  exact congrArg (fun b => Ending.returned (.bool b)) (nat_bne (f &&& 16) 0)

set_option maxRecDepth 100000 in
theorem flag_reg (w : World) (f : Nat) (hf : f < 32) : Calls Tryd.prog 54 #[.int .i64 f] w fun e w' => e = .returned (.bool (f &&& 3 == 0)) ∧ w' = w := by
  have h : bits .and .i64 (f : Int) 3 = ((f &&& 3 : Nat) : Int) := and_i64 f 3 (by omega) (by omega)
  go_enter Tryd.func54, Tryd.ntmps54
  go_wp2_with fail
  go_ret
  refine ⟨?_, rfl⟩
  exact congrArg (fun b => Ending.returned (.bool b)) (nat_beq (f &&& 3) 0)

set_option maxRecDepth 100000 in
theorem flag_tls (w : World) (f : Nat) (hf : f < 32) : Calls Tryd.prog 55 #[.int .i64 f] w fun e w' => e = .returned (.bool (f &&& 3 == 1)) ∧ w' = w := by
  have h : bits .and .i64 (f : Int) 3 = ((f &&& 3 : Nat) : Int) := and_i64 f 3 (by omega) (by omega)
  go_enter Tryd.func55, Tryd.ntmps55
  go_wp2_with fail
  go_ret
  refine ⟨?_, rfl⟩
  exact congrArg (fun b => Ending.returned (.bool b)) (nat_beq (f &&& 3) 1)
end Go.Proofs.YtkpiioiahdcpjaaDoor
