import Derived.Test.Qxb6601523aProg
import Derived.WalkKit
import Derived.WalkSpells
import Derived.WalkLawsBesides
namespace Go.Proofs.Qxb6601523a
open Go.RowKit

/-- The bound on the total length, FnValueQuotedRoundTrip's. -/
theorem zzb9 (s : ByteArray) (b : Bool) (ao : Option Addr) (n cap : Nat) (w : World) (hs : s.size ≤ maxLen) (hn : n ≤ maxLen) :
    Calls Try.prog 9 #[.string s, .bool b, .slice ao n cap] w fun e w' => (∃ r, e = .returned (.bool r) ∧ (r = true → s.size + n ≤ 1048576)) ∧ w' = w := by
  unfold maxLen at hs hn
  go_enter Try.func9, Try.ntmps9
  go_wp2
  all_goals go_ret
  all_goals exact ⟨⟨_, rfl, by intro h; first | omega | simp at h⟩, rfl⟩

end Go.Proofs.Qxb6601523a
