/- An element's encoder: numbers, markers. -/
import Derived.Deep.RegionWith
import Derived.Deep.RegionHeld3
import Derived.Test.YtedjadicdodahaaDoorShelfB
import Derived.Test.YtedjadicdodahaaDoorPEn
import Derived.Lib.EndianMore
import Derived.Lib.Zigzag
namespace Go.Proofs.YtedjadicdodahaaDoor
open Go.RowKit

theorem fr_setCells {G : List Nat} {a : World} {g : Nat} (hg : g ∈ G ∨ a.heap.size ≤ g) : ∀ (vs : List Value) (o : Nat) (w : World), Fr G a w → Fr G a (w.setCells g o vs)
  | [], _, _, h => h
  | v :: r, o, w, h => fr_setCells hg r (o + 1) (w.setCell ⟨g, o, none⟩ v) (h.setCell (p := ⟨g, o, none⟩) hg v)
section
variable {own : Nat → Prop} {pb eb mb : Nat} {ver : Int} {s : Bool} {p : Pk} {e : Es} {k idx : Int} {hd : Bool} {w w' : World}
end
theorem encSyncMarkers_any {own : Nat → Prop} {pb mb : Nat} {ver : Int} {s : Bool} {p : Pk} {w : World} (h : PkSt own pb mb ver (sfI s) p w) : Calls Tryd.prog 29 #[.pointer (some ⟨pb, 0, none⟩)] w (RetQ (.bool s) w) := by
  obtain ⟨f, hb, _⟩ := h.is
  have c12 := hb.cell 12
  cases s
  · go_enter Tryd.func29, Tryd.ntmps29
    go_wp2
    go_ret
    exact ⟨rfl, 0, rfl⟩
  · go_enter Tryd.func29, Tryd.ntmps29
    go_wp2
    go_ret
    exact ⟨rfl, 0, rfl⟩
abbrev ArrU8 : Array Value := #[.int .u8 0, .int .u8 0, .int .u8 0, .int .u8 0, .int .u8 0, .int .u8 0, .int .u8 0, .int .u8 0, .int .u8 0, .int .u8 0]
end Go.Proofs.YtedjadicdodahaaDoor
