/- append onto a row of the call's own, at one operation of a walk: the source a slice that is read (nil, empty or not) or a string. -/
import Derived.Test.YtkpiioiahdcpjaaDoorA
namespace Go.Proofs.YtkpiioiahdcpjaaDoor
open Go.RowKit

/-- The slice x reads as these cells (m elements). -/
def Src (w : World) (size : Nat) (x : Value) (m : Nat) (cs : List Value) : Prop :=
  cs.length = m * size ∧ ∃ A c, x = .slice A m c ∧ (0 < m → ∃ ad, A = some ad ∧ ∀ j u, cs[j]? = some u → w.cell? (ad.add j) = some u)

theorem Src.of_own {w : World} {base e size n : Nat} {v : Value} {cs : List Value} (h : w.ownsRow base e size v n cs) : Src w size v n cs := by
  refine ⟨h.1, ?_⟩
  rcases h.2 with ⟨rfl, rfl⟩ | ⟨g, cap, cur, rfl, _⟩
  · exact ⟨none, 0, rfl, fun h0 => absurd h0 (by omega)⟩
  · exact ⟨_, cap, rfl, fun _ => ⟨_, rfl, h.cells (g := g) rfl⟩⟩
theorem Byt.src {w : World} {base : Nat} {v : Value} {xs : List UInt8} (h : Byt w base v xs) : Src w 1 v xs.length (u8s xs) := Src.of_own h
theorem Src.of_blk {w : World} {size g m c : Nat} {t : TypeId} {cs : Array Value} (h : Blk w g t cs) (hs : cs.size = m * size) : Src w size (.slice (some ⟨g, 0, none⟩) m c) m cs.toList :=
  ⟨by simpa using hs, _, c, rfl, fun _ => ⟨_, rfl, World.news_of_block h⟩⟩
theorem block_add (a : Addr) (n : Nat) : (a.add n).block = a.block := by unfold Addr.add; split <;> rfl
theorem add_zero_blk (g j : Nat) : (⟨g, 0, none⟩ : Addr).add j = ⟨g, j, none⟩ := by unfold Addr.add; split <;> simp_all
theorem Src.keep {w w' : World} {size m : Nat} {x : Value} {cs : List Value} {S : Nat → Prop} (h : Src w size x m cs) (hm : Mod S w w') (hs : ∀ A m' c, x = .slice (some A) m' c → ¬ S A.block) (h0 : 0 < size) : Src w' size x m cs := by
  obtain ⟨hl, A, c, rfl, hr⟩ := h
  refine ⟨hl, A, c, rfl, fun hp => ?_⟩
  obtain ⟨ad, rfl, hc⟩ := hr hp
  exact ⟨ad, rfl, fun j u hu => hm.keeps (hc j u hu) (by rw [block_add]; exact hs _ _ _ rfl)⟩

section
variable {P : Program} (w : World)

theorem run_append_nil_src (base : Nat) (t ty e : TypeId) (i : TypeInfo) (size : Nat) (ht : P.underlying t = some (.slice e)) (hi : P.info? e = some i)
    (v : Value) (n : Nat) (xs : List Value) (hown : w.ownsRow base e size v n xs) (c : Nat) : (Builtin.append_ #[t, t] ty #[v, .slice none 0 c]).run P w = .ok v w := by
  rcases hown.2 with ⟨rfl, rfl⟩ | ⟨g, cap, cur, rfl, _, _, hnc, _⟩
  · simp [Builtin.append_, run_underlying ht, sizeOf, typeInfo, hi, Builtin.lenOf, Builtin.firstCells]
  · simp [Builtin.append_, run_underlying ht, sizeOf, typeInfo, hi, Builtin.lenOf, Builtin.firstCells, hnc, storeCells]

theorem run_append_src (base : Nat) (t ty e : TypeId) (z : Value) (size bytes : Nat) (ht : P.underlying t = some (.slice e))
    (hinfo : (P.info? e).map (fun i => (i.zero, i.size, i.bytes)) = some (some z, size, bytes)) (hzs : z.cells.size = size) (hsz : 0 < size)
    (v : Value) (n : Nat) (xs : List Value) (hown : w.ownsRow base e size v n xs)
    (x : Value) (m : Nat) (news : List Value) (hx : Src w size x m news) (h1 : ∀ u ∈ news, u.oneCell' = true)
    (h63 : n + m ≤ maxLen) (hbytes : (n + m) * bytes ≤ 140737488355328) (hbase : base ≤ w.heap.size) :
    ∃ v' w', (Builtin.append_ #[t, t] ty #[v, x]).run P w = .ok v' w' ∧ w'.ownsRow base e size v' (n + m) (xs ++ news) ∧ Mod (fun k => v.ownBlock = some k) w w' ∧
      (v'.ownBlock = v.ownBlock ∨ v'.ownBlock = some w.heap.size) := by
  obtain ⟨i, hi, hz, hsize, hby⟩ := info_parts hinfo
  obtain ⟨hl, A, c, rfl, hr⟩ := hx
  rcases A with _ | ad
  · have hm : m = 0 := by
      rcases Nat.eq_zero_or_pos m with h0 | h0
      · exact h0
      · obtain ⟨_, h, _⟩ := hr h0
        cases h
    subst hm
    have hn : news = [] := List.eq_nil_of_length_eq_zero (by simpa using hl)
    subst hn
    exact ⟨v, w, run_append_nil_src w base t ty e i size ht hi v n xs hown c, by simpa using hown, Mod.refl _ _, .inl rfl⟩
  · have hcells : ∀ j u, news[j]? = some u → w.cell? (ad.add j) = some u := by
      intro j u hu
      rcases Nat.eq_zero_or_pos m with h0 | h0
      · subst h0
        have hn : news = [] := List.eq_nil_of_length_eq_zero (by simpa using hl)
        subst hn
        simp at hu
      · obtain ⟨_, h, hc⟩ := hr h0
        injection h with h
        subst h
        exact hc j u hu
    obtain ⟨v', w', hrun, h2, h3, _, h5⟩ := run_append_own_at (P := P) w base t ty e i z size bytes ht hi hz hsize hby hzs hsz v n xs hown ad m c news hl hcells h1 h63 hbytes hbase
    exact ⟨v', w', hrun, h2, Mod.of_grown h3, h5⟩

theorem at_str (base : Nat) (t u ty e : TypeId) (i : TypeInfo) (ht : P.underlying t = some (.slice e)) (hu : P.underlying u = some .string)
    (hi : P.info? e = some i) (hz : i.zero = some (.int .u8 0)) (hsize : i.size = 1) (hby : i.bytes = 1)
    (v : Value) (n : Nat) (xs : List Value) (hown : w.ownsRow base e 1 v n xs) (s : ByteArray) (hbytes : n + s.size ≤ 140737488355328)
    {v' : Value} {w' : World} (hrun : (Builtin.append_ #[t, u] ty #[v, .string s]).run P w = .ok v' w') : v'.ownBlock = v.ownBlock ∨ v'.ownBlock = some w.heap.size := by
  have hxl : xs.length = n := by simpa using hown.1
  rcases hown.2 with ⟨rfl, rfl⟩ | ⟨g, cap, cur, rfl, hbg, hg, hnc, hcm, hcs, htake⟩
  · by_cases hm : s.size = 0
    · have hf := Lib.run_firstCells_string (P := P) w 1 s
      have hn : Lib.strCells s = [] := List.eq_nil_of_length_eq_zero (by rw [Lib.strCells_length]; exact hm)
      rw [hm, hn] at hf
      have : (Builtin.append_ #[t, u] ty #[.slice none 0 0, .string s]).run P w = .ok (.slice none 0 0) w := by
        simp [Builtin.append_, run_underlying ht, run_underlying hu, sizeOf, typeInfo, hi, hsize, Builtin.lenOf, hm, hf]
      rw [this] at hrun
      injection hrun with h1 _
      exact .inl (by rw [← h1])
    · have hr := run_append_nil_string (P := P) w t u ty e i (.int .u8 0) ht hu hi hz s (by omega) (by omega) (by rw [hby]; omega)
      rw [hr] at hrun
      injection hrun with h1 _
      exact .inr (by rw [← h1]; rfl)
  · by_cases hroom : n + s.size ≤ cap
    · have hcs' : cur.size = cap := by simpa using hcs
      have hr := Lib.run_append_room_string (P := P) w t u ty e i ht hu hi hsize g n cap cur hg s hroom (by omega)
      rw [hr] at hrun
      injection hrun with h1 _
      exact .inl (by rw [← h1]; rfl)
    · have holds : ∀ j u, xs[j]? = some u → w.cell? ((⟨g, 0, none⟩ : Addr).add j) = some u := hown.cells (g := g) rfl
      have hr := Lib.run_append_grow_string (P := P) w t u ty e i (.int .u8 0) ht hu hi hz ⟨g, 0, none⟩ n cap xs (by rw [hsize]; simpa using hxl) holds s (by omega) (by omega) (by rw [hby]; exact growslice_fits (by omega) (by omega))
      rw [hr] at hrun
      injection hrun with h1 _
      exact .inr (by rw [← h1]; rfl)

theorem run_append_str (base : Nat) (t u ty e : TypeId) (ht : P.underlying t = some (.slice e)) (hu : P.underlying u = some .string)
    (hinfo : (P.info? e).map (fun i => (i.zero, i.size, i.bytes)) = some (some (.int .u8 0), 1, 1))
    (v : Value) (n : Nat) (xs : List Value) (hown : w.ownsRow base e 1 v n xs) (s : ByteArray)
    (h63 : n + s.size ≤ maxLen) (hbytes : n + s.size ≤ 140737488355328) (hbase : base ≤ w.heap.size) :
    ∃ v' w', (Builtin.append_ #[t, u] ty #[v, .string s]).run P w = .ok v' w' ∧ w'.ownsRow base e 1 v' (n + s.size) (xs ++ Lib.strCells s) ∧ Mod (fun k => v.ownBlock = some k) w w' ∧
      (v'.ownBlock = v.ownBlock ∨ v'.ownBlock = some w.heap.size) := by
  obtain ⟨i, hi, hz, hsize, hby⟩ := info_parts hinfo
  obtain ⟨v', w', hrun, h2, h3, _⟩ := Lib.run_append_own_string (P := P) w base t u ty e i ht hu hi hz hsize hby v n xs hown s h63 hbytes hbase
  exact ⟨v', w', hrun, h2, Mod.of_grown h3, at_str (P := P) w base t u ty e i ht hu hi hz hsize hby v n xs hown s hbytes hrun⟩
end

section
variable {w : World} {ops : Array Oper} {rest : List Oper} {o : Oper} {a : Act} {Q : Exit → Act → World → Prop} {K : Act → World → Prop} {E : Prop}

theorem wanted_plain (hgd : o.guard = none) : Region.wanted o (yielded ops a.tmps) = true := by simp [Region.wanted, hgd]

/-- append(v, x...) at one operation: bytes. -/
theorem wp_append (s x : Operand) (ho : o.op = .call { callee := .builtin .append, args := #[s, x], argTypes := #[29, 29] })
    (base : Nat) (v : Value) (xs : List UInt8) (hs : a.eval s = v) (hown : Byt w base v xs) (ys : List UInt8) (hx : Src w 1 (a.eval x) ys.length (u8s ys))
    (hlen : xs.length + ys.length ≤ 140737488355328) (hbase : base ≤ w.heap.size)
    (h : ∀ v' w', Byt w' base v' (xs ++ ys) → Mod (fun k => v.ownBlock = some k) w w' → (v'.ownBlock = v.ownBlock ∨ v'.ownBlock = some w.heap.size) → K (a.put o.dst v') w') :
    Oper.wp Tryd.prog o a w K Q := by
  obtain ⟨v', w', hr, h2, h3, h5⟩ := run_append_src (P := Tryd.prog) w base 29 o.type 5 (.int .u8 0) 1 1 Tryd.underlying29 info5 rfl (by omega) v xs.length (u8s xs) hown _ _ _ hx (u8s_one ys) (by simp only [maxLen]; omega) (by omega) hbase
  unfold Oper.wp execOp
  simp only [ho, resolve, invoke, builtin, Sem.run_bind, Sem.run_pure, Result.andThen_ok, List.map_toArray, List.map_cons, List.map_nil, hs, hr]
  exact h v' w' (by unfold Byt; rw [u8s_append, List.length_append]; exact h2) h3 h5

/-- Gates ahead of an arm: the operation that writes slot N. -/
theorem st_gate {N : Tmp} (_hd : o.dst = some N) (h : if Region.wanted o (yielded ops a.tmps) = true then Oper.wp Tryd.prog o a w K Q else E) : if Region.wanted o (yielded ops a.tmps) = true then Oper.wp Tryd.prog o a w K Q else E := h
theorem ev_gate {N : Tmp} (_hd : o.dst = some N) (h : wpList Tryd.prog ops Q (o :: rest) a w) : wpList Tryd.prog ops Q (o :: rest) a w := h

theorem ev_append (hgd : o.guard = none) (s x : Operand) (ho : o.op = .call { callee := .builtin .append, args := #[s, x], argTypes := #[29, 29] })
    (base : Nat) (v : Value) (xs : List UInt8) (hs : a.eval s = v) (hown : Byt w base v xs) (ys : List UInt8) (hx : Src w 1 (a.eval x) ys.length (u8s ys))
    (hlen : xs.length + ys.length ≤ 140737488355328) (hbase : base ≤ w.heap.size)
    (h : ∀ v' w', Byt w' base v' (xs ++ ys) → Mod (fun k => v.ownBlock = some k) w w' → (v'.ownBlock = v.ownBlock ∨ v'.ownBlock = some w.heap.size) → wpList Tryd.prog ops Q rest (a.put o.dst v') w') :
    wpList Tryd.prog ops Q (o :: rest) a w :=
  wpList_plain hgd fun _ hK => wp_append s x ho base v xs hs hown ys hx hlen hbase fun v' w' h1 h2 h3 => hK _ _ (h v' w' h1 h2 h3)

/-- The same at a step of a region that draws its order. -/
theorem st_append (hgd : o.guard = none) (s x : Operand) (ho : o.op = .call { callee := .builtin .append, args := #[s, x], argTypes := #[29, 29] })
    (base : Nat) (v : Value) (xs : List UInt8) (hs : a.eval s = v) (hown : Byt w base v xs) (ys : List UInt8) (hx : Src w 1 (a.eval x) ys.length (u8s ys))
    (hlen : xs.length + ys.length ≤ 140737488355328) (hbase : base ≤ w.heap.size)
    (h : ∀ v' w', Byt w' base v' (xs ++ ys) → Mod (fun k => v.ownBlock = some k) w w' → (v'.ownBlock = v.ownBlock ∨ v'.ownBlock = some w.heap.size) → K (a.put o.dst v') w') :
    if Region.wanted o (yielded ops a.tmps) = true then Oper.wp Tryd.prog o a w K Q else E := by
  rw [if_pos (wanted_plain hgd)]
  exact wp_append s x ho base v xs hs hown ys hx hlen hbase h

/-- append(v, s...), s a string. -/
theorem wp_append_str (s x : Operand) (ho : o.op = .call { callee := .builtin .append, args := #[s, x], argTypes := #[29, 9] })
    (base : Nat) (v : Value) (xs : List UInt8) (hs : a.eval s = v) (hown : Byt w base v xs) (st : ByteArray) (hx : a.eval x = .string st)
    (hlen : xs.length + st.size ≤ 140737488355328) (hbase : base ≤ w.heap.size)
    (h : ∀ v' w', Byt w' base v' (xs ++ st.data.toList) → Mod (fun k => v.ownBlock = some k) w w' → (v'.ownBlock = v.ownBlock ∨ v'.ownBlock = some w.heap.size) → K (a.put o.dst v') w') :
    Oper.wp Tryd.prog o a w K Q := by
  obtain ⟨v', w', hr, h2, h3, h4⟩ := run_append_str (P := Tryd.prog) w base 29 9 o.type 5 Tryd.underlying29 Tryd.underlying9 info5 v xs.length (u8s xs) hown st (by simp only [maxLen]; omega) (by omega) hbase
  unfold Oper.wp execOp
  simp only [ho, resolve, invoke, builtin, Sem.run_bind, Sem.run_pure, Result.andThen_ok, List.map_toArray, List.map_cons, List.map_nil, hs, hx, hr]
  exact h v' w' (by unfold Byt; rw [u8s_append, List.length_append, ← u8s_str]; exact h2) h3 h4

theorem ev_append_str (hgd : o.guard = none) (s x : Operand) (ho : o.op = .call { callee := .builtin .append, args := #[s, x], argTypes := #[29, 9] })
    (base : Nat) (v : Value) (xs : List UInt8) (hs : a.eval s = v) (hown : Byt w base v xs) (st : ByteArray) (hx : a.eval x = .string st)
    (hlen : xs.length + st.size ≤ 140737488355328) (hbase : base ≤ w.heap.size)
    (h : ∀ v' w', Byt w' base v' (xs ++ st.data.toList) → Mod (fun k => v.ownBlock = some k) w w' → (v'.ownBlock = v.ownBlock ∨ v'.ownBlock = some w.heap.size) → wpList Tryd.prog ops Q rest (a.put o.dst v') w') :
    wpList Tryd.prog ops Q (o :: rest) a w :=
  wpList_plain hgd fun _ hK => wp_append_str s x ho base v xs hs hown st hx hlen hbase fun v' w' h1 h2 h3 => hK _ _ (h v' w' h1 h2 h3)

theorem st_append_str (hgd : o.guard = none) (s x : Operand) (ho : o.op = .call { callee := .builtin .append, args := #[s, x], argTypes := #[29, 9] })
    (base : Nat) (v : Value) (xs : List UInt8) (hs : a.eval s = v) (hown : Byt w base v xs) (st : ByteArray) (hx : a.eval x = .string st)
    (hlen : xs.length + st.size ≤ 140737488355328) (hbase : base ≤ w.heap.size)
    (h : ∀ v' w', Byt w' base v' (xs ++ st.data.toList) → Mod (fun k => v.ownBlock = some k) w w' → (v'.ownBlock = v.ownBlock ∨ v'.ownBlock = some w.heap.size) → K (a.put o.dst v') w') :
    if Region.wanted o (yielded ops a.tmps) = true then Oper.wp Tryd.prog o a w K Q else E := by
  rw [if_pos (wanted_plain hgd)]
  exact wp_append_str s x ho base v xs hs hown st hx hlen hbase h
end

end Go.Proofs.YtkpiioiahdcpjaaDoor
