/- sort.SliceStable over the found exports' rows: its own body; at one row or none. -/
import Derived.Test.YtkpiioiahdcpjaaDoorBl
import Derived.Lib.ReflectliteSlice
import Derived.BigCall
import Derived.BigGuard
namespace Go.Proofs.YtkpiioiahdcpjaaDoor
open Go.RowKit Go.Lib Go.Sort

noncomputable def tiT : TypeInfo := (Tryd.prog.info? 26).get (by kernel_rfl)
noncomputable def tiE : TypeInfo := (Tryd.prog.info? 38).get (by kernel_rfl)
theorem tiE_k (n : Nat) : swapperK n tiE 25 = if n = 0 then 1 else if n = 1 then 2 else 9 := by
  have a : tiE.hasPointers = true := by kernel_rfl
  have b : (tiE.bytes == 8) = false := by kernel_rfl
  unfold swapperK
  rw [a, b]
  by_cases h0 : n = 0
  · simp [h0]
  · by_cases h1 : n = 1
    · simp [h1]
    · simp [h0, h1]

set_option maxHeartbeats 1600000 in
set_option maxRecDepth 100000 in
/-- sort.SliceStable's own body, as far as stable_func. -/
theorem stable18 (p : Option Addr) (n c : Nat) (hn : n ≤ 1000) (sf : Nat) (hf : Tryd.prog.funcs.findIdx? (·.name == "internal/reflectlite" ++ ".Swapper$" ++ toString (swapperK n tiE 25)) = some sf) (sb : Array Value) (hsb : sb = if swapperK n tiE 25 ≤ 2 then #[] else #[.slice p n c, typeHandle Tryd.prog 38]) (lf : Fn) (la lb : Array Value) (w : World) (R : World → Prop)
    (hp : ∀ w1, Mod Nowhere w w1 → Calls Tryd.prog 28 #[.agg #[.func lf la lb, .func (.func sf) #[] sb], .int .i64 n] w1 fun e w' => e = .returned (.tuple #[]) ∧ R w') :
    Calls Tryd.prog 18 #[.iface 26 (.slice p n c), .func lf la lb] w fun e w' => e = .returned (.tuple #[]) ∧ R w' := by
  have hv := run_valueOf_slice (P := Tryd.prog) 26 38 tiT (by kernel_rfl) (by kernel_rfl) p n c w
  have hs := fun w => run_swapper_slice (P := Tryd.prog) 26 38 tiT tiE (by kernel_rfl) (by kernel_rfl) (by kernel_rfl) 25 (fun _ => by kernel_rfl) p n c sf hf w
  have hl := fun a w ha => run_valueLen_slice (P := Tryd.prog) 26 38 tiT (by kernel_rfl) (by kernel_rfl) (by kernel_rfl) a p n c w ha
  rw [← hsb] at hs
  clear hsb hf
  have hg : Tryd.prog.globals.size = 1 := by kernel_rfl
  simp only [typeHandle, hg] at hv hl
  have e28 : ∀ args w, (callFunc 28 args).run Tryd.prog w = .ok (.enter 28 args) w := enters_of Tryd.func28 (by kernel_rfl) rfl
  go_enter Tryd.func18, Tryd.ntmps18
  go_wp2_with fail
  rw [run_callFunc_extern Tryd.func26 (by kernel_rfl) (by kernel_rfl) (by kernel_rfl) (e := fun args => Extern.ReflectliteValue.unpack (args.getD 0 (.tuple #[]))) (by kernel_rfl),
    show Sem.run Tryd.prog ((fun args : Array Value => Extern.ReflectliteValue.unpack (args.getD 0 (.tuple #[]))) #[.iface 26 (.slice p n c)]) w = _ from hv]
  simp only [Result.andThen]
  rw [Oper.upon_value]
  go_wp2_with fail
  rw [run_callFunc_extern Tryd.func27 (by kernel_rfl) (by kernel_rfl) (by kernel_rfl) (e := Extern.ReflectliteSwapper.swapper "internal/reflectlite" (Extern.ReflectliteValue.valueError "Swapper")) (by kernel_rfl), hs]
  simp only [Result.andThen]
  rw [Oper.upon_value]
  go_wp2_with fail
  rw [run_callFunc_extern Tryd.func29 (by kernel_rfl) (by kernel_rfl) (by kernel_rfl) (e := Extern.ReflectliteValue.method (Extern.ReflectliteValue.valueError "reflectlite.Value.Len" 0) Extern.ReflectliteValue.len) (by kernel_rfl),
    hl _ _ (by simp)]
  simp only [Result.andThen]
  rw [Oper.upon_value]
  have hm : Mod Nowhere w ((w.alloc (.cells #[.slice p n c] 26)).alloc (.cells #[.pointer (some ⟨1, 26, none⟩), .pointer (some ⟨w.heap.size, 0, none⟩), .int .u64 151] 71)) := ((Mod.refl _ _).alloc _).alloc _
  go_wp2_with (go_at_fn 28; refine (hp _ hm).mono ?_; rintro e w' ⟨rfl, hR⟩)
  go_end0
  exact ⟨rfl, hR⟩

/-- sort.SliceStable at two rows or more, up to 60. -/
theorem sliceStable_many {B n blk c Bs : Nat} (h2 : 2 ≤ n) (hn : n ≤ 60) (hbs : Bs ≠ blk) (w : World) (f : Nat → Exp) (hr : RowI B n blk c Bs w f) :
    Calls Tryd.prog 18 #[.iface 26 (.slice (some ⟨blk, 0, none⟩) n c), .func (.func 19) #[] #[.pointer (some ⟨Bs, 0, none⟩)]] w (MergePost nlt (RowI B n blk c Bs) (fun x => x = blk) w f 0 n) := by
  have hk : swapperK n tiE 25 = 9 := by rw [tiE_k, if_neg (by omega), if_neg (by omega)]
  refine (stable18 (some ⟨blk, 0, none⟩) n c (by omega) 44 (by rw [hk]; kernel_rfl) #[.slice (some ⟨blk, 0, none⟩) n c, typeHandle Tryd.prog 38] (by rw [hk]; rfl) (.func 19) #[] #[.pointer (some ⟨Bs, 0, none⟩)] w (fun w' => ∃ f', RowI B n blk c Bs w' f' ∧ Pm 0 n f f' ∧ Srtd nlt f' 0 n ∧ Mod (fun x => x = blk) w w') ?_).mono fun e w' h => h
  intro w1 hm
  refine (stable_any (srt_imp B n blk c Bs (by omega) hbs) ord_nlt (enters_of Tryd.func19 (by kernel_rfl) rfl) w1 f (hr.keep hm) hn).mono ?_
  rintro e w' ⟨he, f', h1, h2, h3, h4⟩
  exact ⟨he, f', h1, h2, h3, (hm.any _).trans h4 fun _ _ h => h⟩

set_option maxHeartbeats 1600000 in
set_option maxRecDepth 100000 in
theorem insertion_one (lf : Fn) (la lb : Array Value) (sf : Nat) (sb : Array Value) (n : Nat) (hn : n ≤ 1) (w : World) :
    Calls Tryd.prog 45 #[.agg #[.func lf la lb, .func (.func sf) #[] sb], .int .i64 0, .int .i64 n] w fun e w' => e = .returned (.tuple #[]) ∧ Mod Nowhere w w' := by
  have hm := (Mod.refl Nowhere w).alloc (.cells #[.func lf la lb, .func (.func sf) #[] sb] 77)
  go_enter Tryd.func45, Tryd.ntmps45
  go_wp2_with fail
  refine wp_loop_rounds 1 ?_
  rw [rounds_succ]
  have t1 : decide ((1 : Int) < (n : Int)) = false := decide_eq_false (by omega)
  go_wp2_with fail
  go_end0
  exact ⟨rfl, hm⟩

set_option maxHeartbeats 1600000 in
set_option maxRecDepth 100000 in
theorem stable_one (lf : Fn) (la lb : Array Value) (sf : Nat) (sb : Array Value) (n : Nat) (hn : n ≤ 1) (w : World) :
    Calls Tryd.prog 28 #[.agg #[.func lf la lb, .func (.func sf) #[] sb], .int .i64 n] w fun e w' => e = .returned (.tuple #[]) ∧ Mod Nowhere w w' := by
  have hm := (Mod.refl Nowhere w).alloc (.cells #[.func lf la lb, .func (.func sf) #[] sb] 77)
  have hc := fun w1 => insertion_one lf la lb sf sb n hn w1
  go_enter Tryd.func28, Tryd.ntmps28
  go_wp2_with fail
  refine wp_loop_rounds 1 ?_
  rw [rounds_succ]
  have t1 : decide ((20 : Int) ≤ (n : Int)) = false := decide_eq_false (by omega)
  have t2 : decide ((20 : Int) < (n : Int)) = false := decide_eq_false (by omega)
  go_wp2_with fail
  refine (hc _).mono ?_
  rintro e w1 ⟨rfl, hm1⟩
  go_wp2_with fail
  refine wp_loop_rounds 1 ?_
  rw [rounds_succ]
  go_wp2_with fail
  go_end0
  exact ⟨rfl, hm.then hm1⟩

/-- sort.SliceStable over the found exports' rows. -/
theorem sliceStable_any {B n blk c Bs : Nat} (h0 : 1 ≤ n) (hn : n ≤ 60) (hbs : Bs ≠ blk) (w : World) (f : Nat → Exp) (hr : RowI B n blk c Bs w f) :
    Calls Tryd.prog 18 #[.iface 26 (.slice (some ⟨blk, 0, none⟩) n c), .func (.func 19) #[] #[.pointer (some ⟨Bs, 0, none⟩)]] w (MergePost nlt (RowI B n blk c Bs) (fun x => x = blk) w f 0 n) := by
  by_cases h2 : 2 ≤ n
  · exact sliceStable_many h2 hn hbs w f hr
  · have hn1 : n = 1 := by omega
    have hk : swapperK n tiE 25 = 2 := by rw [tiE_k, if_neg (by omega), if_pos hn1]
    refine (stable18 (some ⟨blk, 0, none⟩) n c (by omega) 37 (by rw [hk]; kernel_rfl) #[] (by rw [hk]; rfl) (.func 19) #[] #[.pointer (some ⟨Bs, 0, none⟩)] w (fun w' => ∃ f', RowI B n blk c Bs w' f' ∧ Pm 0 n f f' ∧ Srtd nlt f' 0 n ∧ Mod (fun x => x = blk) w w') ?_).mono fun e w' h => h
    intro w1 hm
    refine (stable_one _ _ _ _ _ n (by omega) w1).mono ?_
    rintro e w' ⟨he, hm1⟩
    exact ⟨he, f, hr.keep (hm.then hm1), Pm.refl _ _ _, fun x y h1 h2 h3 => by omega, (hm.then hm1).any _⟩
end Go.Proofs.YtkpiioiahdcpjaaDoor
