import Derived.Test.Qxb6000028aProg
import Derived.WalkKit
import Derived.Deep.QuietTactic
import Derived.BigQuiet
namespace Go.Proofs.Qxb6000028a

/-! A region's order, looked through in steps: 'Region.lexB' of a great region asks the kernel for too much at once. -/
def lexTo (md : Region.Mode) (ops : Array Oper) : Nat → Nat → Array Bool → Bool
  | 0, _, _ => true
  | m + 1, k, listed => (Region.ready md ops listed).contains k && Region.free md ops listed k && lexTo md ops m (k + 1) (listed.setIfInBounds k true)
def marks : Nat → Nat → Array Bool → Array Bool
  | 0, _, l => l
  | m + 1, k, l => marks m (k + 1) (l.setIfInBounds k true)
theorem lexFrom_step {md : Region.Mode} {ops : Array Oper} (r : Nat) : ∀ (m k : Nat) (listed : Array Bool), lexTo md ops m k listed = true → Region.lexFrom md ops r (k + m) (marks m k listed) = true → Region.lexFrom md ops (r + m) k listed = true
  | 0, _, _, _, h2 => h2
  | m + 1, k, listed, h1, h2 => by
    simp only [lexTo, Bool.and_eq_true] at h1
    show Region.lexFrom md ops ((r + m) + 1) k listed = true
    simp only [Region.lexFrom, Bool.and_eq_true]
    exact ⟨h1.1, lexFrom_step r m (k + 1) _ h1.2 (by rw [show k + 1 + m = k + (m + 1) by omega]; exact h2)⟩
theorem lexB_of {ops : Array Oper} (n : Nat) (hn : ops.size = n) (hs : Region.noSelect ops = true) (h : Region.lexFrom .any ops n 0 (Array.replicate n false) = true) : Region.lexB .any ops = true := by
  subst hn
  simp only [Region.lexB, Bool.and_eq_true]
  exact ⟨hs, h⟩
end Go.Proofs.Qxb6000028a
