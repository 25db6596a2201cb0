/- A package read, plainly: where each number and each element stands. -/
import Derived.Test.YtedjadicdodahaaGreatDoorQPk
namespace Go.Proofs.YtedjadicdodahaaGreatDoor

/-- l stands in t from i on. -/
def Sat (t : ByteArray) (i : Nat) (l : List UInt8) : Prop := i + l.length ≤ t.size ∧ l <+: t.data.toList.drop i
section
variable {t : ByteArray} {i : Nat} {a b l : List UInt8}
theorem Sat.left (h : Sat t i (a ++ b)) : Sat t i a :=
  ⟨by have := h.1; rw [List.length_append] at this; omega, (List.prefix_append a b).trans h.2⟩
theorem Sat.right (h : Sat t i (a ++ b)) : Sat t (i + a.length) b := by
  refine ⟨by have := h.1; rw [List.length_append] at this; omega, ?_⟩
  obtain ⟨r, hr⟩ := h.2
  refine ⟨r, ?_⟩
  rw [← List.drop_drop, ← hr, List.append_assoc, List.drop_left]
theorem Sat.here (a b c : List UInt8) : Sat (str (a ++ (b ++ c))) a.length b := by
  refine ⟨by rw [str_size]; simp only [List.length_append]; omega, c, ?_⟩
  rw [str_list, List.drop_left]
theorem Sat.all (l : List UInt8) : Sat (str l) 0 l := by
  refine ⟨by rw [str_size]; omega, [], ?_⟩
  rw [str_list]
  simp
theorem Sat.at (h : Sat t i l) (j : Nat) (hj : j < l.length) : t.data.toList[i + j]? = some l[j] := by
  obtain ⟨r, hr⟩ := h.2
  rw [← List.getElem?_drop, ← hr, List.getElem?_append_left hj, List.getElem?_eq_getElem hj]
theorem Sat.lt (h : Sat t i l) (j : Nat) (hj : j < l.length) : i + j < t.size := by have := h.1; omega
end

theorem le4_val (x : Nat) (hx : x < 4294967296) : (x.toUInt8.toNat = x % 256 ∧ (x / 256).toUInt8.toNat = x / 256 % 256) ∧ ((x / 65536).toUInt8.toNat = x / 65536 % 256 ∧ (x / 16777216).toUInt8.toNat = x / 16777216) := by
  have h : ∀ y : Nat, y.toUInt8.toNat = y % 256 := fun y => by rw [Nat.toUInt8, UInt8.toNat_ofNat']
  refine ⟨⟨h _, h _⟩, h _, ?_⟩
  rw [h]
  omega

/-- A number of seven bits a byte. -/
theorem uv_small {x : Nat} (h : x < 128) : uv x = [x.toUInt8] := Lib.uvarint_small h
theorem uv_big {x : Nat} (h : 128 ≤ x) : uv x = (x % 128 + 128).toUInt8 :: uv (x / 128) := Lib.uvarint_big h
theorem uv_b0 {x : Nat} (h : x < 128) : x.toUInt8.toNat = x := by rw [Nat.toUInt8, UInt8.toNat_ofNat']; omega
theorem uv_b1 (x : Nat) : (x % 128 + 128).toUInt8.toNat = x % 128 + 128 := by rw [Nat.toUInt8, UInt8.toNat_ofNat']; omega

theorem str_extract (a b c : List UInt8) : (str (a ++ (b ++ c))).extract a.length (a.length + b.length) = str b := by
  apply ByteArray.ext
  rw [ByteArray.data_extract]
  apply Array.toList_inj.1
  rw [Array.toList_extract, str_list, str_list, List.extract_eq_take_drop]
  rw [List.drop_left, Nat.add_sub_cancel_left, List.take_left]
theorem str_tail (a b : List UInt8) : (str (a ++ b)).extract a.length (str (a ++ b)).size = str b := by
  have h := str_extract a b []
  rw [List.append_nil] at h
  rw [str_size, List.length_append]
  exact h
theorem str_of (t : ByteArray) : str t.data.toList = t := by
  apply ByteArray.ext
  simp [str]

theorem dat_len : ∀ L : List ByteArray, (L.flatMap fun t => t.data.toList).length = (szs L).sum
  | [] => rfl
  | t :: L => by
    rw [List.flatMap_cons, List.length_append, dat_len L]
    simp [szs]
/-- An element's bytes. -/
theorem elem_extract (L : List ByteArray) (r : List UInt8) (j : Nat) (h : j < L.length) : (str ((L.flatMap fun t => t.data.toList) ++ r)).extract (szs (L.take j)).sum (szs (L.take (j + 1))).sum = L[j] := by
  have h0 : L = L.take j ++ L[j] :: L.drop (j + 1) := by rw [List.getElem_cons_drop, List.take_append_drop]
  have h1 : (L.flatMap fun t => t.data.toList) ++ r = ((L.take j).flatMap fun t => t.data.toList) ++ (L[j].data.toList ++ (((L.drop (j + 1)).flatMap fun t => t.data.toList) ++ r)) := by
    conv => lhs; rw [h0]
    rw [List.flatMap_append, List.flatMap_cons]
    simp only [List.append_assoc]
  have h2 : (szs (L.take (j + 1))).sum = (szs (L.take j)).sum + L[j].data.toList.length := by
    rw [List.take_succ_eq_append_getElem h]
    unfold szs
    rw [List.map_append, List.sum_append, List.map_cons, List.map_nil, List.sum_cons, List.sum_nil, Nat.add_zero, Array.length_toList]
    rfl
  rw [h1, h2, ← dat_len (L.take j), str_extract, str_of]
theorem sums_at (l : List Nat) (j : Nat) (h : j < l.length) : (sums l)[j]? = some (l.take (j + 1)).sum := by
  unfold sums
  rw [List.getElem?_map, List.getElem?_range h]
  rfl
theorem szs_take (L : List ByteArray) (j : Nat) : szs (L.take j) = (szs L).take j := by simp [szs, List.map_take]

/-- Ahead of the elements' bytes. -/
def Pk.hd (v : Nat) (s : Bool) (p : Pk) : List UInt8 := le4 v ++ (flagB v s ++ ((sums p.counts).flatMap le4 ++ (sums p.sizes).flatMap le4))
theorem Pk.body_eq (v : Nat) (s : Bool) (p : Pk) : p.body v s = p.hd v s ++ p.data := by simp [Pk.body, Pk.hd, List.append_assoc]
theorem flat4_len : ∀ l : List Nat, (l.flatMap le4).length = 4 * l.length
  | [] => rfl
  | x :: l => by rw [List.flatMap_cons, List.length_append, flat4_len l, le4_len, List.length_cons]; omega
theorem flagB_len (v : Nat) (s : Bool) : (flagB v s).length = if 1 ≤ v then 4 else 0 := by
  unfold flagB
  split <;> simp [le4_len]
theorem Pk.counts_len (p : Pk) : p.counts.length = 10 := by simp [Pk.counts, Pk.secs_len]
theorem Pk.sizes_len (p : Pk) : p.sizes.length = (p.elems 10).length := by simp [Pk.sizes]
theorem Pk.elems_len (p : Pk) : ∀ i, (p.elems i).length = ((p.secs i).map List.length).sum
  | 0 => rfl
  | i + 1 => by
    rw [Pk.elems_succ, Pk.secs_succ, List.length_append, List.map_append, List.sum_append, p.elems_len i]
    simp
/-- How many elements there are up to a section. -/
theorem Pk.ends_at (p : Pk) (k : Nat) (h : k < 10) : (sums p.counts)[k]? = some (p.elems (k + 1)).length := by
  rw [sums_at p.counts k (by rw [Pk.counts_len]; exact h), Pk.elems_len]
  congr 2
  unfold Pk.counts Pk.secs
  rw [← List.map_take, ← List.map_take, List.take_range, Nat.min_eq_left (by omega)]
theorem Pk.elems_pre10 (p : Pk) (k : Nat) (h : k ≤ 10) : p.elems k <+: p.elems 10 := p.elems_pre k 10 h
/-- Where the i-th element of section k stands among all. -/
theorem Pk.elem_at (p : Pk) (k i : Nat) (h : k < 10) (hi : i < (p k).length) : (p.elems 10)[(p.elems k).length + i]? = some (p k)[i] := by
  refine pre_at (p.elems_pre (k + 1) 10 (by omega)) ?_
  rw [Pk.elems_succ, List.getElem?_append_right (by omega), Nat.add_sub_cancel_left, List.getElem?_eq_getElem hi]
theorem Pk.elems_le (p : Pk) (k i : Nat) (h : k < 10) (hi : i < (p k).length) : (p.elems k).length + i < (p.elems (k + 1)).length ∧ (p.elems (k + 1)).length ≤ (p.elems 10).length := by
  refine ⟨?_, (p.elems_pre (k + 1) 10 (by omega)).length_le⟩
  rw [Pk.elems_succ, List.length_append]
  omega
/-- The bytes of the i-th element of section k. -/
theorem Pk.extract_at (p : Pk) (r : List UInt8) (k i : Nat) (h : k < 10) (hi : i < (p k).length) :
    (str (p.data ++ r)).extract (p.sizes.take ((p.elems k).length + i)).sum (p.sizes.take ((p.elems k).length + i + 1)).sum = (p k)[i] := by
  have h1 := p.elems_le k i h hi
  have h2 := p.elem_at k i h hi
  have h3 := elem_extract (p.elems 10) r ((p.elems k).length + i) (by omega)
  rw [List.getElem?_eq_getElem (by omega), Option.some.injEq] at h2
  rw [szs_take, szs_take, h2] at h3
  exact h3
end Go.Proofs.YtedjadicdodahaaGreatDoor
