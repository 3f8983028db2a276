/- Words of the walks. -/
import Derived.Test.YtaejkbjepbifcabGreatDoorKApart
import Derived.Test.YtaejkbjepbifcabGreatDoorKArr
/-! ### 43. What is read beside a state: it stays read whatever the state's calls turn ('∀ W', KeepBut w W' g none → d.C W' A n xs') -/
namespace Go.Proofs.YtaejkbjepbifcabGreatDoorW.PrintWords
open Go.RowKit
namespace Kd
section
variable {α : Type} {d : Kd α} {e base g n c : Nat} {ok : Nat → Prop} {w w0 W : World} {A : Option Addr} {xs : List α}
end
end Kd
end Go.Proofs.YtaejkbjepbifcabGreatDoorW.PrintWords
