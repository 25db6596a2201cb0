/- What is read out of an object file: auxiliary symbols, relocations. (printed by gen_implf.py) -/
import Derived.Laws.MakeOwn
import Derived.Great.Walk
import Derived.Test.YtajeinkkfggcbaaGreatDoorPart
import Derived.Test.YtajeinkkfggcbaaGreatDoorTold
import Derived.Test.YtajeinkkfggcbaaGreatDoorSlB
import Derived.Test.YtajeinkkfggcbaaGreatDoorBlocks
import Derived.Test.YtajeinkkfggcbaaGreatDoorImplA
namespace Go.Proofs.YtajeinkkfggcbaaGreatDoor
open Go.RowKit

/-- The same cells n times. -/
def zs (n : Nat) (z : List Value) : List Value := (List.replicate n ()).flatMap fun _ => z
theorem zs_len (n : Nat) (z : List Value) : (zs n z).length = n * z.length := by
  unfold zs
  rw [flat_len (n := z.length) _ (fun _ _ => rfl), List.length_replicate]
theorem zs_succ (n : Nat) (z : List Value) : zs (n + 1) z = z ++ zs n z := by simp [zs, List.replicate_succ]
theorem made_zs (z : Array Value) (n : Nat) (hz : 0 < z.size) : madeCells z (n * z.size) = (zs n z.toList).toArray := by
  rw [← Array.toList_inj]
  apply List.ext_getElem?
  intro i
  rw [Array.getElem?_toList]
  rcases Nat.lt_or_ge i (n * z.size) with hi | hi
  · have hk : i / z.size < n := Nat.div_lt_of_lt_mul (by rw [Nat.mul_comm]; exact hi)
    have hj : i % z.size < z.size := Nat.mod_lt _ hz
    have hij : i / z.size * z.size + i % z.size = i := by rw [Nat.mul_comm]; exact Nat.div_add_mod i z.size
    have h := flat_get (f := fun (_ : Unit) => z.toList) (n := z.size) (List.replicate n ()) (fun _ _ => by simp) (i / z.size) (by simpa using hk) (i % z.size) hj
    rw [hij] at h
    show _ = ((List.replicate n ()).flatMap fun _ => z.toList)[i]?
    rw [h]
    simp [madeCells, hi, hj]
  · show _ = (zs n z.toList)[i]?
    rw [Array.getElem?_eq_none (by rw [size_madeCells]; exact hi), List.getElem?_eq_none (by rw [zs_len]; simpa using hi)]
theorem fill_splice (P z R c : List Value) (hc : c.length = z.length) : splice (P ++ (z ++ R)) P.length c = P ++ (c ++ R) := by
  unfold splice
  rw [hc, ← List.append_assoc P z R]
  congr 1
  · rw [List.append_assoc, List.take_left']
    rfl
  · congr 1
    rw [List.drop_left']
    simp
/-- A block filled with elements, as a list. -/
theorem SlR.of_blk {α : Type} {f : α → List Value} {n : Nat} {w : World} {g : Nat} {t : TypeId} {l : List α} (h : Blk w g t (l.flatMap f).toArray) (hf : ∀ x ∈ l, (f x).length = n) : SlR n w (some ⟨g, 0, none⟩) (l.map f) := fun _ => by
  refine ⟨g, 0, rfl, fun j cs hj i u hu => ?_⟩
  rw [List.getElem?_map, Option.map_eq_some_iff] at hj
  obtain ⟨x, hx, rfl⟩ := hj
  obtain ⟨hj', rfl⟩ := List.getElem?_eq_some_iff.1 hx
  have hi := (List.getElem?_eq_some_iff.1 hu).1
  have hlen := hf l[j] (List.getElem_mem hj')
  have hg := flat_get l hf j hj' i (by omega)
  rw [hu] at hg
  rw [h.cell, List.getElem?_toArray, show 0 + j * n + i = j * n + i from by omega]
  exact hg
theorem bcs_all (xs : List Int) : (bcs xs).toArray.all (·.oneCell') = true := by
  rw [Array.all_eq_true_iff_forall_mem]
  intro v hv
  exact bcs_one xs v (List.mem_toArray.1 hv)

end Go.Proofs.YtajeinkkfggcbaaGreatDoor
