/-
  math/bits.Len off the shelf, at numbers up to 255.
-/
import Derived.Test.YbulkbldeNode
import Derived.Shelf.Lay
import Derived.Shelf.Small.Bits
import Derived.Ground.NamesProg
namespace Go.Proofs.Ybulkblde
open Go.RowKit Go.Shelf
shelf_lay Lays.n125 Nm 125 at Yba as Yba.lays125
theorem len_any (n : Nat) (w : World) (hn : n ≤ 255) :
    Calls Yba.prog 50 #[.int .u64 n] w fun e w' => e = .returned (.int .i64 (Lib.bitLen n)) ∧ w' = w := by
  have h : Calls Yba.prog 50 #[.int .u64 (n : Int)] w fun e w' => e = .returned (.int .i64 (Lib.bitLen (n : Int).toNat)) ∧ w' = w := Any.bits_Len Yba.lays125 (n : Int) w (by omega) (by omega)
  simpa using h
theorem bitLen_facts : ∀ n, n ≤ 255 → n < 2 ^ (Lib.bitLen n) ∧ Lib.bitLen n ≤ 8 := by
  intro n hn
  have : ∀ m, m < 256 → m < 2 ^ (Lib.bitLen m) ∧ Lib.bitLen m ≤ 8 := by decide +kernel
  exact this n (by omega)
end Go.Proofs.Ybulkblde
