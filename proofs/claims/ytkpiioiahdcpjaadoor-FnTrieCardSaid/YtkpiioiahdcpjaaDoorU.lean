/- The walk of spec.Unsigned: the bytes of a number of variable length. -/
import Derived.Test.YtkpiioiahdcpjaaDoorB
import Derived.Deep.LoopGhost
import Derived.Outline
namespace Go.Proofs.YtkpiioiahdcpjaaDoor
open Go.RowKit

def uleb (n : Nat) : List UInt8 := if h : n < 128 then [UInt8.ofNat n] else UInt8.ofNat (n % 128 + 128) :: uleb (n / 128)
termination_by n
decreasing_by omega

theorem uleb_lt {n : Nat} (h : n < 128) : uleb n = [UInt8.ofNat n] := by rw [uleb, dif_pos h]
theorem uleb_ge {n : Nat} (h : 128 ≤ n) : uleb n = UInt8.ofNat (n % 128 + 128) :: uleb (n / 128) := by rw [uleb, dif_neg (by omega)]

theorem uleb_pos (n : Nat) : 0 < (uleb n).length := by rw [uleb]; split <;> simp
theorem uleb_len (k : Nat) : ∀ n, n < 128 ^ (k + 1) → (uleb n).length ≤ k + 1 := by
  induction k with
  | zero => intro n h; rw [uleb_lt (by omega)]; simp
  | succ k ih =>
    intro n h
    by_cases hn : n < 128
    · rw [uleb_lt hn]; simp
    · rw [uleb_ge (by omega)]
      have := ih (n / 128) (by rw [Nat.pow_succ] at h; exact Nat.div_lt_of_lt_mul (by rw [Nat.mul_comm]; exact h))
      simp; omega
theorem uleb_10 (n : Nat) (h : n < 1180591620717411303424) : (uleb n).length ≤ 10 := uleb_len 9 n (by omega)

theorem or_128 : ∀ a : Nat, a < 256 → (a ||| 128) = a % 128 + 128 := by decide +kernel
theorem bits_or_128 (m : Nat) : bits .or .u8 ((m : Int) % 256) 128 = ((UInt8.ofNat (m % 128 + 128)).toNat : Int) := by
  have e : ((m : Int) % 256) = ((m % 256 : Nat) : Int) := by omega
  rw [e, show (128 : Int) = ((128 : Nat) : Int) from rfl, (bits_nat .u8 8 (by decide) wraps_u8 (m % 256) 128 (by omega) (by omega)).2, or_128 _ (by omega), UInt8.toNat_ofNat']
  omega
theorem mod_256 (m : Nat) (h : m < 128) : ((m : Int) % 256) = ((UInt8.ofNat m).toNat : Int) := by
  rw [UInt8.toNat_ofNat']; omega

theorem nat_u8 (m : Nat) (h : m < 128) : (m : Int) = ((UInt8.ofNat m).toNat : Int) := by
  rw [UInt8.toNat_ofNat']; omega

theorem src_one {w : World} {g : Nat} {x : Int} {b : UInt8} (h : Blk w g 5 #[.int .u8 x]) (hx : x = b.toNat) : Src w 1 (.slice (some ⟨g, 0, none⟩) 1 1) [b].length (u8s [b]) := by
  subst hx
  exact Src.of_blk h rfl

/-- A block with one byte 0, laid for an append, that is not v's row. -/
def ZOk (w : World) (v : Value) (z : Nat) : Prop := Blk w z 5 #[.int .u8 0] ∧ ∀ k, v.ownBlock = some k → k ≠ z
theorem ZOk.new {w : World} {base : Nat} {v : Value} {xs : List UInt8} (hb : Byt w base v xs) : ZOk (w.alloc (.cells #[.int .u8 0] 5)) v w.heap.size :=
  ⟨Blk.new w 5 _, fun k hk => by have := (hb.lt k hk).2; omega⟩
theorem ZOk.then {w w' : World} {v : Value} {z : Nat} (h : ZOk w v z) (hm : Mod Nowhere w w') : ZOk w' v z := ⟨h.1.keep hm id, h.2⟩
theorem ZOk.app {w w' : World} {v v' : Value} {z : Nat} (h : ZOk w v z) (hm : Mod (fun k => v.ownBlock = some k) w w') (hat : v'.ownBlock = v.ownBlock ∨ v'.ownBlock = some w.heap.size) : ZOk w' v' z := by
  refine ⟨h.1.keep hm (fun e => h.2 z e rfl), fun k hk => ?_⟩
  rcases hat with e | e
  · exact h.2 k (e ▸ hk)
  · have hz := h.1.lt
    rw [e] at hk
    injection hk with hk
    omega

set_option maxHeartbeats 400000 in
set_option maxRecDepth 100000 in
theorem unsigned_any (n : Nat) (w : World) (hn : (uleb n).length ≤ 16) :
    Calls Tryd.prog 25 #[.int .u64 n] w fun e w' => ∃ v, e = .returned v ∧ Byt w' w.heap.size v (uleb n) ∧ Mod Nowhere w w' := by
  have HN := Lib.hid hn
  clear hn
  go_enter Tryd.func25, Tryd.ntmps25
  go_wp2
  go_loopg [0, 3] n (fun k v0 v3 w' => ∃ (m : Nat) (xs : List UInt8), v0 = .int .u64 m ∧ Hid (m ≤ k ∧ xs ++ uleb m = uleb n ∧ xs.length + (uleb m).length ≤ (uleb n).length ∧ Byt w' w.heap.size v3 xs ∧ Mod Nowhere w w'))
  case atStart => exact ⟨n, [], rfl, Nat.le_refl _, rfl, by simp, Byt.nil _ _, Mod.refl _ _⟩
  case round =>
    obtain ⟨m, xs, rfl, H⟩ := hrel
    by_cases hm : 128 ≤ m
    · have hm' : decide ((128 : Int) ≤ (m : Int)) = true := by simp; omega
      go_wp2_with (at_builtin; obtain ⟨h1, h2, h3, h4, h5⟩ := H.out; refine ev_append rfl (.tmp 6) (.tmp 10) rfl w.heap.size u3 xs rfl (h4.then ((Mod.refl _ _).alloc _)) [UInt8.ofNat (m % 128 + 128)] (src_one (Blk.new wr 5 _) (bits_or_128 m)) (by have := HN.out; have := uleb_pos m; simp; omega) ((h5.alloc _).size) ?_; intro v1 w1 hb1 hm1 hat; have H1 : Hid (Byt w1 w.heap.size v1 (xs ++ [UInt8.ofNat (m % 128 + 128)]) ∧ Mod Nowhere w w1) := ⟨hb1, (h5.alloc _).trans hm1 (fun x hx e => by have := h4.lt x e; omega)⟩; clear hb1 hm1 hat h1 h2 h3 h4 h5)
      have H0 := H
      clear H
      go_roundg (m / 128)
      case measure => have := H0.out.1; omega
      case rel =>
        obtain ⟨h1, h2, h3, h4, h5⟩ := H0.out
        refine ⟨m / 128, _, rfl, Nat.le_refl _, ?_, ?_, H1.out.1, H1.out.2⟩
        · rw [← h2, uleb_ge hm]; simp
        · rw [uleb_ge hm] at h3; simp at h3 ⊢; omega
    · have hm' : decide ((128 : Int) ≤ (m : Int)) = false := by simp; omega
      go_wp2_with (at_builtin; obtain ⟨h1, h2, h3, h4, h5⟩ := H.out; refine ev_append rfl (.tmp 14) (.tmp 17) rfl w.heap.size u3 xs rfl (h4.then ((Mod.refl _ _).alloc _)) [UInt8.ofNat m] (src_one (Blk.new wr 5 _) (nat_u8 m (by omega))) (by have := HN.out; have := uleb_pos m; simp; omega) ((h5.alloc _).size) ?_; intro v1 w1 hb1 hm1 hat; have H1 : Hid (Byt w1 w.heap.size v1 (xs ++ [UInt8.ofNat m]) ∧ Mod Nowhere w w1) := ⟨hb1, (h5.alloc _).trans hm1 (fun x hx e => by have := h4.lt x e; omega)⟩; clear hb1 hm1 hat h1 h2 h3 h4 h5)
      go_ret
      obtain ⟨h1, h2, h3, h4, h5⟩ := H.out
      refine ⟨v1, rfl, ?_, H1.out.2⟩
      rw [← h2, uleb_lt (by omega)]
      exact H1.out.1
end Go.Proofs.YtkpiioiahdcpjaaDoor
