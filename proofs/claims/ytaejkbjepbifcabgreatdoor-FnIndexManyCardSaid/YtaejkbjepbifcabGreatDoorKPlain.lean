/- Plain facts of lists of bytes: splitting at a byte. -/
import Derived.Test.YtaejkbjepbifcabGreatDoorKWords
import Derived.Lib.Strings
namespace Go.Proofs.YtaejkbjepbifcabGreatDoor.Plain
open Go.RowKit Go.Proofs.YtaejkbjepbifcabGreatDoorW.PrintWords

theorem wrap_ok {i : Int} (h0 : -9223372036854775808 ≤ i) (h1 : i ≤ 9223372036854775807) : wrap64 i = i := by unfold wrap64; omega
/-- A test whose outcome is known, among rounds. -/
theorem evp {α : Type} {c : Prop} [Decidable c] {A B : Nat → Option α} {r : α} (h : c) (hA : Ev A r) : Ev (fun k => if c then A k else B k) r := Ev.congr (fun _ => if_pos h) hA
theorem evn {α : Type} {c : Prop} [Decidable c] {A B : Nat → Option α} {r : α} (h : ¬ c) (hB : Ev B r) : Ev (fun k => if c then A k else B k) r := Ev.congr (fun _ => if_neg h) hB

end Go.Proofs.YtaejkbjepbifcabGreatDoor.Plain
