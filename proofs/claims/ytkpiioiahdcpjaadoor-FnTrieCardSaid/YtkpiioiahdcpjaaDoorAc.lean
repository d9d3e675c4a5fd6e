/- The set of names that have been seen; plain; the sizes' guards. -/
import Derived.Test.YtkpiioiahdcpjaaDoorG
import Derived.Maps.Own
import Derived.Maps.Views
import Derived.BigQuiet
import Derived.Deep.QuietTactic
namespace Go.Proofs.YtkpiioiahdcpjaaDoor
open Go.RowKit
open Go.Maps (Keyed string_keyed)

/-- A map of names, true at those of S. -/
def Seen (w : World) (b n : Nat) (S : List (List UInt8)) : Prop :=
  ∃ D : DataW Unit, w.ownsMap Tryd.prog 9 (plainElem Tryd.prog 4) b n D ∧ Maps.IsMap D ∧ ∀ s : List UInt8, D.atKey (.string s) (.lit (.bool false)) = .lit (.bool (decide (s ∈ S)))
theorem key9 (s : ByteArray) (hs : s.size ≤ maxLen) : keyOf Tryd.prog 9 (.string s) = some (.string s.data.toList) := by
  simp [keyOf, mapKey, Tryd.underlying9, hs]
theorem Seen.new (w : World) : Seen (w.alloc (.map #[] 0)) w.heap.size 0 [] :=
  ⟨.map [], World.ownsMap_made w _ _ _, Maps.isMap_empty, fun s => by simp [DataW.atKey]⟩
theorem Seen.mono {w : World} {b n m : Nat} {S : List (List UInt8)} (h : Seen w b n S) (hn : n ≤ m) : Seen w b m S := by
  obtain ⟨D, h1, h2⟩ := h
  exact ⟨D, h1.mono hn, h2⟩
theorem Seen.keep {w w' : World} {b n : Nat} {S : List (List UInt8)} {T : Nat → Prop} (h : Seen w b n S) (hm : Mod T w w') (hb : ¬ T b) : Seen w' b n S := by
  obtain ⟨D, ⟨es, clock, hg, r⟩, h2⟩ := h
  exact ⟨D, ⟨es, clock, (hm.block b (Array.getElem?_eq_some_iff.1 hg).1 hb).trans hg, r⟩, h2⟩
theorem bool_of {P : Program} {e : TypeId} (he : P.underlying e = some .bool) {v : Value} {x : Bool} {ps : List MemPlace} (h : plainElem (H := Unit) P e v = some (.lit (.bool x), ps)) : v = .bool x := by
  unfold plainElem at h
  rw [he] at h
  cases v with
  | bool y =>
    simp only [Option.some.injEq, Prod.mk.injEq, DataW.lit.injEq, Lit.bool.injEq] at h
    rw [h.1]
  | _ => cases h
theorem Seen.look {w : World} {b n : Nat} {S : List (List UInt8)} (h : Seen w b n S) (s : ByteArray) (hs : s.size ≤ maxLen) : (Instr.lookup 36 (.map (some b)) (.string s) false).run Tryd.prog w = .ok (.bool (decide (s.data.toList ∈ S))) w := by
  obtain ⟨D, h1, h2, h3⟩ := h
  obtain ⟨v, ps, hrun, hv⟩ := h1.lookup (e := 4) (string_keyed Tryd.underlying9) Tryd.underlying36 (z := .bool false) (zd := .lit (.bool false)) (zp := []) (by kernel_rfl) (plainElem_bool Tryd.underlying4 false) (key9 s hs)
  rw [h3] at hv
  rw [hrun]
  have : v = .bool (decide (s.data.toList ∈ S)) := bool_of Tryd.underlying4 hv
  rw [this]

section
variable {w : World} {ops : Array Oper} {rest : List Oper} {o : Oper} {a : Act} {Q : Exit → Act → World → Prop}
theorem ev_seen (hg : o.guard = none) (m x v : Operand) (hop : o.op = Op.mapUpdate 36 m x v) (b n : Nat) (S : List (List UInt8)) (hm : a.eval m = .map (some b)) (hown : Seen w b n S) (hn : n < maxLen) (s : ByteArray) (hs : s.size ≤ maxLen) (hx : a.eval x = .string s) (hv : a.eval v = .bool true)
    (hK : ∀ w', Seen w' b (n + 1) (s.data.toList :: S) → Mod (fun k => k = b) w w' → wpList Tryd.prog ops Q rest (a.put o.dst undef) w') :
    wpList Tryd.prog ops Q (o :: rest) a w := by
  obtain ⟨D, h1, h2, h3⟩ := hown
  refine wpList_mapUpdate_own w hg m x v 36 hop 9 4 (string_keyed Tryd.underlying9) Tryd.underlying36 (plainElem Tryd.prog 4) b n D hm h1 hn (.string s) (.bool true) (.string s.data.toList) hx hv (key9 s hs) (.lit (.bool true)) [] (plainElem_bool Tryd.underlying4 true) ?_
  intro w' hw hgr
  refine hK w' ⟨D.put (.string s.data.toList) (.lit (.bool true)), hw, ?_, fun t => ?_⟩ ((Mod.of_grown hgr).mono fun x _ e => by injection e with e; exact e.symm)
  · obtain ⟨es, rfl⟩ := h2
    exact ⟨_, rfl⟩
  · by_cases ht : t = s.data.toList
    · subst ht
      rw [Maps.atKey_put_same h2 (by trivial)]
      simp
    · rw [Maps.atKey_put_other (by intro e; injection e with e; exact ht e), h3]
      simp [ht]
end

theorem wrap64_nat (k : Nat) (h : k + 1 ≤ 9223372036854775807) : wrap64 ((k : Int) + 1) = (k : Int) + 1 := by
  unfold wrap64; omega
/-- A text of letters, digits and signs. -/
def PlainOk (s : ByteArray) : Prop := s.data.toList ≠ [] ∧ ∀ b ∈ s.data.toList, b ≠ 0

set_option maxHeartbeats 800000 in
set_option maxRecDepth 100000 in
theorem plain_any (w : World) (s : ByteArray) (hs : s.size ≤ maxLen) : Calls Tryd.prog 11 #[.string s] w fun e w' => ∃ b, e = .returned (.bool b) ∧ (b = true → PlainOk s) ∧ Mod Nowhere w w' := by
  have hs' : s.size ≤ 9223372036854775807 := hs
  have HS := Lib.hid hs'
  clear hs hs'
  go_enter Tryd.func11, Tryd.ntmps11
  go_wp2_with fail
  go_loopg [6] s.size (fun kq v6 wr => ∃ k : Nat, v6 = .int .i64 k ∧ Hid (kq = s.size - k ∧ k ≤ s.size ∧ (∀ b ∈ s.data.toList.take k, b ≠ 0) ∧ Mod Nowhere w wr))
  case atStart => exact ⟨0, rfl, rfl, Nat.zero_le _, by simp, Mod.refl _ _⟩
  case round =>
    obtain ⟨k, rfl, H⟩ := hrel
    by_cases hk : k < s.size
    · have hk' : ((k : Int) < (s.size : Int)) := by omega
      by_cases h1 : s[k].toNat ≤ 32
      · have hd1 : decide (((s[k].toNat : Nat) : Int) ≤ 32) = true := by simp; omega
        go_wp2_with fail
        go_ret
        exact ⟨false, rfl, fun h => (by cases h), H.out.2.2.2⟩
      · have hd1 : decide (((s[k].toNat : Nat) : Int) ≤ 32) = false := by simp; omega
        by_cases h2 : s[k].toNat > 126
        · have hd2 : decide (((s[k].toNat : Nat) : Int) > 126) = true := by simp; omega
          go_wp2_with fail
          go_ret
          exact ⟨false, rfl, fun h => (by cases h), H.out.2.2.2⟩
        · have hd2 : decide (((s[k].toNat : Nat) : Int) > 126) = false := by simp; omega
          have hsk : Hid (k + 1 ≤ 9223372036854775807) := by have := HS.out; show _ ≤ _; omega
          have hwr : wrap64 ((k : Int) + 1) = (k : Int) + 1 := wrap64_nat k (by have := HS.out; omega)
          go_wp2_with fail
          go_roundg (s.size - (k + 1))
          case measure => have := H.out.1; omega
          case rel =>
            refine ⟨k + 1, by go_num, rfl, hk, ?_, H.out.2.2.2⟩
            intro b hb
            rw [List.take_add_one] at hb
            rw [List.mem_append] at hb
            rcases hb with hb | hb
            · exact H.out.2.2.1 b hb
            · have e1 : s.data.toList[k]? = some s[k] := by rw [List.getElem?_eq_getElem (by simpa using hk)]; rfl
              rw [e1] at hb
              simp only [Option.toList_some, List.mem_singleton] at hb
              subst hb
              intro e0
              apply h1
              rw [e0]; decide
    · have hend : decide (k < s.size) = false := by simp; omega
      have hke : k = s.size := by have := H.out.2.1; omega
      cases he : s.toList.isEmpty with
      | true =>
        go_wp2_with fail
        go_ret
        exact ⟨false, rfl, fun h => (by cases h), H.out.2.2.2⟩
      | false =>
        go_wp2_with fail
        go_ret
        refine ⟨true, rfl, fun _ => ⟨ne_nil_of he, ?_⟩, H.out.2.2.2⟩
        have := H.out.2.2.1
        rw [hke, List.take_of_length_le (by simp)] at this
        exact this
end Go.Proofs.YtkpiioiahdcpjaaDoor
