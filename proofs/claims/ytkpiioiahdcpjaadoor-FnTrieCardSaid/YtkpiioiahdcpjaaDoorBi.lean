/- symMerge, whole. -/
import Derived.Test.YtkpiioiahdcpjaaDoorBh
namespace Go.Proofs.YtkpiioiahdcpjaaDoor
open Go.RowKit

theorem merge_any {n : Nat} {α : Type} {lt : α → α → Bool} {g : Nat} {lb : Array Value} {sf : Nat} {sb : Array Value} {Row : World → (Nat → α) → Prop} {S : Nat → Prop} (C : Srt n lt g lb sf sb Row S) (O : OrdOk lt) (eg : ∀ args w, (callFunc g args).run Tryd.prog w = .ok (.enter g args) w) :
    ∀ (N : Nat) (w : World) (f : Nat → α) (a m b : Nat), b - a ≤ N → Row w f → a < m → m < b → b ≤ n → Srtd lt f a m → Srtd lt f m b →
      Calls Tryd.prog 46 #[.agg #[.func (.func g) #[] lb, .func (.func sf) #[] sb], .int .i64 a, .int .i64 m, .int .i64 b] w (MergePost lt Row S w f a b) := by
  intro N
  induction N with
  | zero => intro w f a m b h; omega
  | succ N ih =>
    intro w f a m b hN hr ham hmb hbn h1 h2
    by_cases hl : m = a + 1
    · exact merge_left C O eg w f a m b hr hl hmb hbn h1 h2
    · by_cases hr1 : b = m + 1
      · exact merge_right C O eg w f a m b hr (by omega) hr1 hbn h1
      · exact merge_main C O eg (N + 1) (fun w' f' a' m' b' h => ih w' f' a' m' b' (by omega)) w f a m b hN hr (by omega) (by omega) hbn h1 h2

end Go.Proofs.YtkpiioiahdcpjaaDoor
