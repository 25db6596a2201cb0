/- The references on bytes: records as lists of bytes. -/
import Derived.Test.YtajeinkkfggcbaaGreatDoorSpec
import Derived.Test.YtajeinkkfggcbaaGreatDoorReg
namespace Go.Proofs.YtajeinkkfggcbaaGreatDoor
open Go.RowKit

theorem Steps.cons {F : Nat → Oper → Prop} {i : Nat} {o : Oper} {os : List Oper} (h : F i o) (hs : Steps F (i + 1) os) : Steps F i (o :: os) := ⟨h, hs⟩
theorem Steps.nil {F : Nat → Oper → Prop} {i : Nat} : Steps F i [] := trivial

/-- What a slot's value is: a value, a slice of bytes, a slice of such. -/
inductive Pd where
  | is (c : Value)
  | bytes (xs : List Int)
  | lists (xss : List (List Int))
  | any
def Pd.holds : Pd → Value → World → Prop
  | .is c, v, _ => v = c
  | .bytes xs, v, w => ∃ A c n, v = .slice A n c ∧ n = xs.length ∧ SlI .u8 w A xs ∧ xs.length ≤ c
  | .lists xss, v, w => ∃ A c, v = .slice A xss.length c ∧ SlS .u8 w A xss
  | .any, _, _ => True
theorem Pd.mono {p : Pd} {v : Value} {w w' : World} (h : Below w.heap.size w w') (hp : p.holds v w) : p.holds v w' := by
  cases p with
  | is c => exact hp
  | bytes xs => obtain ⟨A, c, n, h1, hn, h2, h3⟩ := hp; exact ⟨A, c, n, h1, hn, h2.here h, h3⟩
  | lists xss => obtain ⟨A, c, h1, h2⟩ := hp; exact ⟨A, c, h1, h2.here h⟩
  | any => trivial
/-- Slot by slot. -/
def pds (l : List Pd) (i : Nat) : Value → World → Prop := (l[i]?.getD .any).holds
/-- What turns nothing that was there. -/
def Later (a b : World) : Prop := Below a.heap.size a b

/-- A call that returns a slice that reads xs, and turns nothing that was there. -/
def RetB (xs : List Int) (w : World) (e : Ending) (w' : World) : Prop := ∃ A c, e = .returned (.slice A xs.length c) ∧ SlI .u8 w' A xs ∧ xs.length ≤ c ∧ Below w.heap.size w w'
theorem RetB.of_own {xs : List Int} {n : Nat} {r : Value} {w w' : World} {e : Ending} (he : e = .returned r) (ho : w'.ownsRow w.heap.size 5 1 r n (xs.map (Value.int .u8))) (hb : Below w.heap.size w w') : RetB xs w e w' := by
  obtain ⟨A, c, h1, h2, h3, h4⟩ := SlI.of_own ho
  subst h1 h2
  exact ⟨A, c, he, h4, h3, hb⟩


theorem region_pd {P : Program} {ops : Array Oper} {Q : Exit → Act → World → Prop} {a0 : Act} {w0 : World} {id : Nat} (hm : P.follows .mixedOrders = true) (l : List Pd) (sl : List Nat) (hok : slotsOk ops sl a0.tmps.size = true)
    (hstep : Steps (RStep P ops Q (pds l) Later sl a0 w0.drew) 0 ops.toList)
    (hend : ∀ f w, Later w0.drew w → (∀ i, i < ops.size → pds l i (f (sl.getD i 0)) w) → Q .normal (over a0 sl f) w) : (Code.region id ops true).wp P Q a0 w0 :=
  region_inv hm (pds l) Later sl (fun _ => Below.refl _ _) (fun _ _ _ => below_from) (fun _ _ _ _ h hv => Pd.mono h hv) hok hstep hend

theorem slS_new (W : World) (t : TypeId) (l : List (Option Addr × Nat × List Int)) (h : ∀ x ∈ l, SlI .u8 W x.1 x.2.2 ∧ x.2.2.length ≤ x.2.1) :
    SlS .u8 (W.alloc (.cells (l.map fun x => Value.slice x.1 x.2.2.length x.2.1).toArray t)) (some ⟨W.heap.size, 0, none⟩) (l.map (·.2.2)) := by
  intro _
  refine ⟨_, 0, rfl, fun j xs hj => ?_⟩
  rw [List.getElem?_map, Option.map_eq_some_iff] at hj
  obtain ⟨x, hx, rfl⟩ := hj
  obtain ⟨h1, h2⟩ := h x (List.mem_of_getElem? hx)
  refine ⟨x.1, x.2.1, ?_, h1.here (Below.alloc (Below.refl _ _) (Nat.le_refl _) _), h2⟩
  rw [(Blk.new W t _).cell, Nat.zero_add, List.getElem?_toArray, List.getElem?_map, hx]
  rfl
theorem later_alloc (W : World) (o : Obj) : Later W (W.alloc o) := Below.alloc (Below.refl _ _) (Nat.le_refl _) o
theorem later_refl (W : World) : Later W W := Below.refl _ _

theorem leN_mod (m : Nat) : ∀ (v : Int) (k : Nat), m ≤ k → leN m (v % 256 ^ k) = leN m v := by
  induction m with
  | zero => intro v k _; rfl
  | succ m ih =>
    intro v k hk
    obtain ⟨j, rfl⟩ : ∃ j, k = j + 1 := ⟨k - 1, by omega⟩
    have e1 : v % 256 ^ (j + 1) % 256 = v % 256 := Int.emod_emod_of_dvd v ⟨256 ^ j, by rw [Int.pow_succ, Int.mul_comm]⟩
    have e2 : v % 256 ^ (j + 1) / 256 = v / 256 % 256 ^ j := by
      have hp : (0 : Int) < 256 ^ j := Int.pow_pos (by omega)
      rw [Int.pow_succ, Int.mul_comm, Int.emod_def, Int.emod_def, Int.mul_assoc, ← Int.ediv_ediv_of_nonneg (by omega)]
      generalize (256 : Int) ^ j * (v / 256 / 256 ^ j) = x
      omega
    rw [leN, leN, e1, e2, ih _ _ (by omega)]
theorem leN_mod8 (m : Nat) (v : Int) (h : m ≤ 8) : leN m (v % 18446744073709551616) = leN m v := leN_mod m v 8 h
theorem sli_new (W : World) (t : TypeId) (xs : List Int) : SlI .u8 (W.alloc (.cells (xs.map (Value.int .u8)).toArray t)) (some ⟨W.heap.size, 0, none⟩) xs := fun _ =>
  ⟨_, 0, rfl, fun j z hz => by rw [(Blk.new W t _).cell, Nat.zero_add, List.getElem?_toArray, List.getElem?_map, hz]; rfl⟩
end Go.Proofs.YtajeinkkfggcbaaGreatDoor
