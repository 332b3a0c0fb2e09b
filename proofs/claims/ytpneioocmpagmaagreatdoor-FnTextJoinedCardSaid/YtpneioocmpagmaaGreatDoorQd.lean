/- text.AppendString, impl.TextQuote. -/
import Derived.Test.YtpneioocmpagmaaGreatDoorQc
namespace Go.Proofs.YtpneioocmpagmaaGreatDoor.tx
open Go.RowKit
set_option linter.unusedVariables false
set_option linter.unusedSimpArgs false

def TQ (l : List UInt8) (w : World) (e : Ending) (w' : World) : Prop :=
  ∃ v' g, e = .returned v' ∧ OwnB w' w.heap.size v' (34 :: g ++ [34]) ∧ Tenc g l ∧ g.length ≤ 6 * l.length ∧ Below w.heap.size w w'

set_option maxHeartbeats 4000000 in
set_option maxRecDepth 100000 in
theorem text_quote (s : ByteArray) (w : World) (hlen : 6 * s.size + 8 ≤ 140737488355328) (EB : ∀ w', Below w.heap.size w w' → EncEnv w') :
    Calls Tryz.prog 19 #[.string s] w fun e w' => TQ s.data.toList w e w' := by
  have H := Lib.hid (append_string s (.slice none 0 0) w.heap.size w (Nat.le_refl _) ⟨rfl, .inl ⟨rfl, rfl⟩⟩ hlen EB)
  clear EB
  go_enter Tryz.func19, Tryz.ntmps19
  go_wp2_with (first | (go_at_call 34; go_in) | (go_at_call 62; refine H.out.mono ?_; rintro e w' ⟨v', g, rfl, h1, h2, h3, h4⟩; have P := Lib.hid (And.intro h1 (And.intro h2 (And.intro h3 h4))); clear h1 h2 h3 h4))
  go_ret
  exact ⟨v', g, rfl, P.out⟩

end Go.Proofs.YtpneioocmpagmaaGreatDoor.tx
