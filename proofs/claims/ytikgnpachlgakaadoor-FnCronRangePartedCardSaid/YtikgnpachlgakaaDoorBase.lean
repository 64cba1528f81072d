/- Small words for walks: an error's value, what stands below, the cells that a later world still holds; errors.New. -/
import Derived.Test.YtikgnpachlgakaaDoorProg
import Derived.WalkKit
import Derived.OwnWalk
import Derived.Lib.Hide
import Derived.Below
import Derived.WalkSmall
import Derived.WalkLawsBesides
import Derived.WalkSpells
namespace Go.Proofs.YtikgnpachlgakaaDoor.Cron
open Go Go.RowKit

theorem bcell {W w1 : World} (hb : Below W.heap.size W w1) : (∀ b o, b < W.heap.size → w1.cell? ⟨b, o, none⟩ = W.cell? ⟨b, o, none⟩) ∧ (∀ b o, b < W.heap.size → w1.frozen? ⟨b, o, none⟩ = W.frozen? ⟨b, o, none⟩) :=
  ⟨fun b o h => hb.cell (p := ⟨b, o, none⟩) h, fun b o h => hb.frozen (p := ⟨b, o, none⟩) h⟩

theorem below_of_le {W w1 w2 : World} (h1 : Below W.heap.size W w1) (h2 : Below w1.heap.size w1 w2) : Below W.heap.size W w2 :=
  h1.trans (h2.mono h1.size)

/-- an error that is not nil -/
def ErrIs (v : Value) : Prop := ∃ t x, v = .iface t x

theorem errorsNew_any (s : ByteArray) (w : World) :
    Calls Tryd.prog 58 #[.string s] w fun e w' => ∃ t x, e = .returned (.iface t x) ∧ Below w.heap.size w w' := by
  go_enter Tryd.func58, Tryd.ntmps58
  go_wp2
  go_ret
  exact ⟨_, _, rfl, (Below.refl _ _).alloc (Nat.le_refl _) _⟩

end Go.Proofs.YtikgnpachlgakaaDoor.Cron
