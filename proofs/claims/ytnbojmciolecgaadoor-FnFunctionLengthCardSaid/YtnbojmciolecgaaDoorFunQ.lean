/- The law on the length of what is known of a function, its arguments opened. -/
import Derived.Test.YtnbojmciolecgaaDoorFunO
namespace Go.Proofs.YtnbojmciolecgaaDoor
open Go.RowKit

theorem fnFunctionLength_any {H : Type} {enc : TypeId × Value → H} (args locals id flag line : Int) (F T : Value) (file a f l p y c : Int) (w : World) (b0 : 0 ≤ args ∧ args < 4294967296) (b1 : 0 ≤ locals ∧ locals < 4294967296) (_ : 0 ≤ id ∧ id < 256) (_ : 0 ≤ flag ∧ flag < 256) (_ : -2147483648 ≤ line ∧ line < 2147483648)
    (h5 : Rd enc Tryd.prog w 49 [F]) (h6 : Rd enc Tryd.prog w 50 [T]) (bf : 0 ≤ file ∧ file < 4294967296) (ba : -2147483648 ≤ a ∧ a < 2147483648) (bb : 0 ≤ f ∧ f < 4294967296) (bl : -2147483648 ≤ l ∧ l < 2147483648) (bp : 0 ≤ p ∧ p < 4294967296) (bq : 0 ≤ y ∧ y < 4294967296) (bc : -2147483648 ≤ c ∧ c < 2147483648) :
    Calls Tryd.prog 7 #[funVal args locals id flag line F T, .int .u32 file, nodeVal a f l p y c] w (LawEnd w) := by
  obtain ⟨files, tree, FA, TA, fc, tc, rfl, rfl, hf, ht, bfi, bt, mf, mt⟩ := Rd.funs h5 h6
  exact fnFunctionLength_walk args locals id flag line files tree FA TA fc tc w hf ht bfi bt b0 b1 mf mt file bf ⟨a, f, l, p, y, c⟩ ⟨ba, bb, bl, bp, bq, bc⟩
end Go.Proofs.YtnbojmciolecgaaDoor
