/- A package of elements, as it is written: the plain model. -/
import Derived.Lib.Varint
import Derived.Lib.VarintDec
import Derived.Test.YtedjadicdodahaaGreatDoorLaw
namespace Go.Proofs.YtedjadicdodahaaGreatDoor

abbrev uv (x : Nat) : List UInt8 := Lib.uvarint x
theorem uv_len {x : Nat} (h : x < 18446744073709551616) : (uv x).length ≤ 10 := Lib.uvarint_length64 h
/-- A marker, where there are any. -/
def sy (s : Bool) (m : Nat) : List UInt8 := if s then uv m ++ uv 0 else []
theorem sy_len (s : Bool) {m : Nat} (h : m < 18446744073709551616) : (sy s m).length ≤ 20 := by
  unfold sy
  split
  · have := uv_len h
    have := uv_len (x := 0) (by decide)
    rw [List.length_append]
    omega
  · simp
def eU (s : Bool) (x : Nat) : List UInt8 := sy s 4 ++ uv x
def eI (s : Bool) (x : Int) : List UInt8 := sy s 3 ++ uv (Lib.zigzag x)
def eB (s : Bool) (b : Bool) : List UInt8 := sy s 2 ++ [if b then 1 else 0]
theorem eU_len (s : Bool) {x : Nat} (h : x < 18446744073709551616) : (eU s x).length ≤ 30 := by
  have := sy_len s (m := 4) (by decide)
  have := uv_len h
  unfold eU
  rw [List.length_append]
  omega
theorem zigzag_lt {x : Int} (h0 : -9223372036854775808 ≤ x) (h1 : x < 9223372036854775808) : Lib.zigzag x < 18446744073709551616 := by
  unfold Lib.zigzag
  split <;> omega
theorem eI_len (s : Bool) {x : Int} (h0 : -9223372036854775808 ≤ x) (h1 : x < 9223372036854775808) : (eI s x).length ≤ 30 := by
  have := sy_len s (m := 3) (by decide)
  have := uv_len (zigzag_lt h0 h1)
  unfold eI
  rw [List.length_append]
  omega
theorem eB_len (s b : Bool) : (eB s b).length ≤ 21 := by
  have := sy_len s (m := 2) (by decide)
  unfold eB
  rw [List.length_append, List.length_singleton]
  omega

section
variable {α : Type} [DecidableEq α]
/-- x among l; behind it, where it is not there yet. -/
def put (l : List α) (x : α) : List α := if x ∈ l then l else l ++ [x]
theorem put_of_mem {l : List α} {x : α} (h : x ∈ l) : put l x = l := if_pos h
theorem put_of_not {l : List α} {x : α} (h : x ∉ l) : put l x = l ++ [x] := if_neg h
/-- The place of x in l; behind it, where it is not there. -/
def idx (l : List α) (x : α) : Nat := l.idxOf x
theorem idx_of_not {l : List α} {x : α} (h : x ∉ l) : idx l x = l.length := List.idxOf_eq_length h
theorem put_pre (l : List α) (x : α) : l <+: put l x := by
  unfold put
  split
  · exact List.prefix_refl _
  · exact List.prefix_append _ _
theorem mem_put (l : List α) (x : α) : x ∈ put l x := by
  unfold put
  split
  · assumption
  · simp
theorem idx_le (l : List α) (x : α) : idx l x ≤ l.length := List.idxOf_le_length
theorem put_len (l : List α) (x : α) : (put l x).length ≤ l.length + 1 := by
  unfold put
  split <;> simp
theorem put_at (l : List α) (x : α) : (put l x)[idx l x]? = some x := by
  by_cases h : x ∈ l
  · rw [put_of_mem h]
    unfold idx
    rw [List.getElem?_eq_getElem (List.idxOf_lt_length_iff.2 h), List.getElem_idxOf]
  · rw [put_of_not h, idx_of_not h]
    simp
end

theorem pre_at {α : Type} {l k : List α} (h : l <+: k) {i : Nat} {x : α} (hx : l[i]? = some x) : k[i]? = some x := by
  obtain ⟨t, rfl⟩ := h
  rw [List.getElem?_append_left (List.getElem?_eq_some_iff.1 hx).1]
  exact hx

/-- An encoder's state: the strings of the package, its references, its bytes. -/
structure Es where
  ss : List ByteArray
  rs : List (Int × Int)
  ds : List UInt8
def Es.put (e : Es) (b : List UInt8) : Es := ⟨e.ss, e.rs, e.ds ++ b⟩
def Es.ref (s : Bool) (k i : Int) (e : Es) : Es := ⟨e.ss, Proofs.YtedjadicdodahaaGreatDoor.put e.rs (k, i), e.ds ++ (sy s 10 ++ eU s (idx e.rs (k, i)))⟩
def Es.str (s : Bool) (t : ByteArray) (e : Es) : Es := Es.ref s 0 (idx e.ss t : Nat) ⟨Proofs.YtedjadicdodahaaGreatDoor.put e.ss t, e.rs, e.ds ++ sy s 5⟩
def Es.strs (s : Bool) (l : List ByteArray) (e : Es) : Es := l.foldl (fun e t => e.str s t) (e.put (eU s l.length))

/-- A slice: where it lies, its capacity, its elements. -/
structure Sl (α : Type) where
  A : Option Addr
  c : Nat
  l : List α
abbrev Sl.val {α : Type} (s : Sl α) : Value := .slice s.A s.l.length s.c
structure Bt where
  (kind num sec : Int)
  text : ByteArray
  texts : Sl ByteArray
abbrev Bt.cells (b : Bt) : List Value := [.int .i64 b.kind, .int .i64 b.num, .int .i64 b.sec, .string b.text, b.texts.val]
structure El where
  (sec mark : Int)
  bits : Sl Bt
abbrev El.cells (e : El) : List Value := [.int .i64 e.sec, .int .i64 e.mark, e.bits.val]

/-- What a value leaves of an encoder. -/
def Es.bit (s : Bool) (b : Bt) (e : Es) : Es :=
  if b.kind = 0 then e.put (eB s (decide (b.num ≠ 0)))
  else if b.kind = 1 ∨ b.kind = 4 then e.put (eI s b.num)
  else if b.kind = 2 ∨ b.kind = 3 ∨ b.kind = 5 then e.put (eU s (b.num % 18446744073709551616).toNat)
  else if b.kind = 6 then e.str s b.text
  else if b.kind = 7 then e.strs s b.texts.l
  else if b.kind = 8 then e.ref s b.sec b.num
  else if b.kind = 9 then e.put (sy s 25 ++ eU s b.num.toNat)
  else if b.kind = 10 then e.put (sy s 19 ++ eU s b.num.toNat)
  else if b.kind = 11 then e.put (sy s 7 ++ eU s b.num.toNat)
  else if b.kind = 12 then e.put (sy s b.num.toNat)
  else e
def Es.bits (s : Bool) (l : List Bt) (e : Es) : Es := l.foldl (fun e b => e.bit s b) e
theorem Es.bits_snoc (s : Bool) (l : List Bt) (b : Bt) (e : Es) : e.bits s (l ++ [b]) = (e.bits s l).bit s b := by simp [Es.bits]
/-- The references, ahead of an element's bytes. -/
def refB (s : Bool) (r : Int × Int) : List UInt8 := sy s 9 ++ (eU s r.1.toNat ++ eU s r.2.toNat)
def refsB (s : Bool) (rs : List (Int × Int)) : List UInt8 := sy s 8 ++ (eU s rs.length ++ rs.flatMap (refB s))
def Es.bytes (s : Bool) (e : Es) : List UInt8 := refsB s e.rs ++ e.ds

/-- The sections of a package. -/
abbrev Pk := Nat → List ByteArray
def str (l : List UInt8) : ByteArray := ⟨l.toArray⟩
theorem str_size (l : List UInt8) : (str l).size = l.length := by simp [str, ByteArray.size]
theorem str_list (l : List UInt8) : (str l).data.toList = l := by simp [str]
def El.es (s : Bool) (x : El) (p : Pk) : Es := Es.bits s x.bits.l ⟨p 0, [], sy s x.mark.toNat⟩
def Pk.elem (s : Bool) (x : El) (p : Pk) : Pk := fun k => if k = 0 then (x.es s p).ss else if k = x.sec.toNat then p k ++ [str ((x.es s p).bytes s)] else p k
def Pk.none : Pk := fun _ => []
def Pk.all (s : Bool) (l : List El) : Pk := l.foldl (fun p x => p.elem s x) Pk.none
theorem Pk.all_snoc (s : Bool) (l : List El) (x : El) : Pk.all s (l ++ [x]) = (Pk.all s l).elem s x := by simp [Pk.all]
/-- The index of each element; what each truth value told. -/
def idxs (s : Bool) (l : List El) : List Int := (List.range l.length).map fun i => ((Pk.all s (l.take i) ((l[i]?.map (fun x => x.sec.toNat)).getD 0)).length : Int)
def bitTold (b : Bt) : List Bool := if b.kind = 0 then [decide (b.num ≠ 0)] else []
def elTold (x : El) : List Bool := x.bits.l.flatMap bitTold
def told (l : List El) : List Bool := l.flatMap elTold
theorem idxs_len (s : Bool) (l : List El) : (idxs s l).length = l.length := by simp [idxs]
theorem idxs_snoc (s : Bool) (l : List El) (x : El) : idxs s (l ++ [x]) = idxs s l ++ [((Pk.all s l x.sec.toNat).length : Int)] := by
  unfold idxs
  rw [List.length_append, List.length_singleton, List.range_succ, List.map_append]
  congr 1
  · apply List.map_congr_left
    intro i hi
    rw [List.mem_range] at hi
    rw [List.take_append_of_le_length (by omega), List.getElem?_append_left hi]
  · simp

/-- Four bytes, the lowest first. -/
def le4 (x : Nat) : List UInt8 := [x.toUInt8, (x / 256).toUInt8, (x / 65536).toUInt8, (x / 16777216).toUInt8]
theorem le4_len (x : Nat) : (le4 x).length = 4 := rfl
def Pk.secs (p : Pk) (n : Nat) : List (List ByteArray) := (List.range n).map p
theorem Pk.secs_len (p : Pk) (n : Nat) : (p.secs n).length = n := by simp [Pk.secs]
theorem Pk.secs_succ (p : Pk) (n : Nat) : p.secs (n + 1) = p.secs n ++ [p n] := by simp [Pk.secs, List.range_succ]
/-- All elements, section by section. -/
def Pk.elems (p : Pk) (n : Nat) : List ByteArray := (p.secs n).flatten
theorem Pk.elems_succ (p : Pk) (n : Nat) : p.elems (n + 1) = p.elems n ++ p n := by simp [Pk.elems, Pk.secs_succ]
/-- The sums of a list from its start on. -/
def sums (l : List Nat) : List Nat := (List.range l.length).map fun i => (l.take (i + 1)).sum
theorem sums_len (l : List Nat) : (sums l).length = l.length := by simp [sums]
theorem sums_snoc (l : List Nat) (x : Nat) : sums (l ++ [x]) = sums l ++ [l.sum + x] := by
  unfold sums
  rw [List.length_append, List.length_singleton, List.range_succ, List.map_append]
  congr 1
  · apply List.map_congr_left
    intro i hi
    rw [List.mem_range] at hi
    rw [List.take_append_of_le_length (by omega)]
  · rw [List.map_singleton, List.take_of_length_le (by simp), List.sum_append]
    simp
def flagB (v : Nat) (s : Bool) : List UInt8 := if 1 ≤ v then le4 (if s then 1 else 0) else []
def Pk.counts (p : Pk) : List Nat := (p.secs 10).map List.length
def Pk.sizes (p : Pk) : List Nat := (p.elems 10).map ByteArray.size
def Pk.data (p : Pk) : List UInt8 := (p.elems 10).flatMap fun t => t.data.toList
/-- All bytes but the fingerprint. -/
def Pk.body (v : Nat) (s : Bool) (p : Pk) : List UInt8 := le4 v ++ (flagB v s ++ ((sums p.counts).flatMap le4 ++ ((sums p.sizes).flatMap le4 ++ p.data)))
end Go.Proofs.YtedjadicdodahaaGreatDoor

namespace Go.Proofs.YtedjadicdodahaaGreatDoor

/-- What the statements ask of a value, an element. -/
structure Bt.Ok (b : Bt) : Prop where
  kind : 0 ≤ b.kind ∧ b.kind ≤ 12
  num : -9223372036854775808 ≤ b.num ∧ b.num < 9223372036854775808
  len : b.kind = 3 → 0 ≤ b.num
  ref : b.kind = 8 → 0 ≤ b.sec ∧ b.sec ≤ 9 ∧ 0 ≤ b.num ∧ b.num ≤ 2147483647
  obj : b.kind = 9 ∨ b.kind = 11 → 0 ≤ b.num ∧ b.num ≤ 5
  typ : b.kind = 10 → 0 ≤ b.num ∧ b.num ≤ 11
  syn : b.kind = 12 → 1 ≤ b.num ∧ b.num ≤ 60
  text : b.text.size ≤ 200
  texts : b.texts.l.length ≤ 20 ∧ ∀ t ∈ b.texts.l, t.size ≤ 200
structure El.Ok (x : El) : Prop where
  sec : 1 ≤ x.sec ∧ x.sec ≤ 9
  mark : 1 ≤ x.mark ∧ x.mark ≤ 60
  len : x.bits.l.length ≤ 60
  bits : ∀ b ∈ x.bits.l, b.Ok

/-- An encoder's state of at most a references, a strings beyond n, c bytes; the strings are short. -/
structure Es.Le (e : Es) (n a c : Nat) : Prop where
  ss : e.ss.length ≤ n + a
  rs : e.rs.length ≤ a
  ds : e.ds.length ≤ c
  sz : ∀ t ∈ e.ss, t.size ≤ 200
section
variable {e : Es} {n a c : Nat}
theorem Es.Le.mono (h : e.Le n a c) {a' c' : Nat} (ha : a ≤ a') (hc : c ≤ c') : e.Le n a' c' := ⟨by have := h.ss; omega, by have := h.rs; omega, by have := h.ds; omega, h.sz⟩
theorem Es.Le.put (h : e.Le n a c) {b : List UInt8} {k : Nat} (hb : b.length ≤ k) : (e.put b).Le n a (c + k) :=
  ⟨h.ss, h.rs, by have := h.ds; show (e.ds ++ b).length ≤ _; rw [List.length_append]; omega, h.sz⟩
theorem Es.Le.ref (h : e.Le n a c) (s : Bool) (k i : Int) (ha : a ≤ 1000000) : (e.ref s k i).Le n (a + 1) (c + 50) := by
  have h1 := h.rs
  have h2 := h.ds
  have h3 := h.ss
  have h4 := put_len e.rs (k, i)
  have h5 := idx_le e.rs (k, i)
  have h6 := sy_len s (m := 10) (by decide)
  have h7 := eU_len s (x := idx e.rs (k, i)) (by omega)
  refine ⟨by show e.ss.length ≤ _; omega, by show (Proofs.YtedjadicdodahaaGreatDoor.put e.rs (k, i)).length ≤ _; omega, ?_, h.sz⟩
  show (e.ds ++ (sy s 10 ++ eU s (idx e.rs (k, i)))).length ≤ _
  simp only [List.length_append]
  omega
theorem Es.Le.str (h : e.Le n a c) (s : Bool) (t : ByteArray) (ht : t.size ≤ 200) (ha : a ≤ 1000000) : (e.str s t).Le n (a + 1) (c + 70) := by
  have h1 := h.rs
  have h2 := h.ds
  have h3 := h.ss
  have h4 := put_len e.ss t
  have h5 := put_len e.rs ((0 : Int), (idx e.ss t : Int))
  have h6 := sy_len s (m := 10) (by decide)
  have h8 := sy_len s (m := 5) (by decide)
  have h9 := idx_le e.rs ((0 : Int), (idx e.ss t : Int))
  have h7 := eU_len s (x := idx e.rs ((0 : Int), (idx e.ss t : Int))) (by omega)
  refine ⟨by show (Proofs.YtedjadicdodahaaGreatDoor.put e.ss t).length ≤ _; omega, by show (Proofs.YtedjadicdodahaaGreatDoor.put e.rs _).length ≤ _; omega, ?_, fun u hu => ?_⟩
  · show ((e.ds ++ sy s 5) ++ (sy s 10 ++ eU s (idx e.rs ((0 : Int), (idx e.ss t : Int))))).length ≤ _
    simp only [List.length_append]
    omega
  · have hu : u ∈ Proofs.YtedjadicdodahaaGreatDoor.put e.ss t := hu
    unfold Proofs.YtedjadicdodahaaGreatDoor.put at hu
    split at hu
    · exact h.sz u hu
    · rcases List.mem_append.1 hu with hu | hu
      · exact h.sz u hu
      · rw [List.mem_singleton.1 hu]
        exact ht
theorem strs_go (s : Bool) : ∀ (l : List ByteArray) (e : Es) (a c : Nat) (_ : e.Le n a c) (_ : ∀ t ∈ l, t.size ≤ 200) (_ : a + l.length ≤ 1000000), (l.foldl (fun e t => e.str s t) e).Le n (a + l.length) (c + 70 * l.length)
  | [], _, _, _, h, _, _ => h
  | t :: l, e, a, c, h, ht, hl => by
    have hl' : a + (l.length + 1) ≤ 1000000 := by simpa using hl
    have h1 := strs_go s l (e.str s t) (a + 1) (c + 70) (h.str s t (ht t (by simp)) (by omega)) (fun u hu => ht u (by simp [hu])) (by omega)
    rw [List.foldl_cons, List.length_cons]
    exact h1.mono (by omega) (by omega)
theorem Es.Le.bit (h : e.Le n a c) (s : Bool) {b : Bt} (hb : b.Ok) (ha : a ≤ 900000) : (e.bit s b).Le n (a + 20) (c + 1500) := by
  have o1 := hb.obj
  have o2 := hb.typ
  have o3 := hb.syn
  have n1 := hb.num
  unfold Es.bit
  split
  · exact (h.put (eB_len s _)).mono (by omega) (by omega)
  split
  · exact (h.put (eI_len s n1.1 n1.2)).mono (by omega) (by omega)
  split
  · exact (h.put (eU_len s (by omega))).mono (by omega) (by omega)
  split
  · exact (h.str s b.text hb.text (by omega)).mono (by omega) (by omega)
  split
  · have hl := hb.texts.1
    have h1 := strs_go (n := n) s b.texts.l (e.put (eU s b.texts.l.length)) a (c + 30) (h.put (eU_len s (by omega))) hb.texts.2 (by omega)
    exact h1.mono (by omega) (by omega)
  split
  · exact (h.ref s _ _ (by omega)).mono (by omega) (by omega)
  split
  · exact (h.put (k := 50) (by have := sy_len s (m := 25) (by decide); have := eU_len s (x := b.num.toNat) (by omega); rw [List.length_append]; omega)).mono (by omega) (by omega)
  split
  · exact (h.put (k := 50) (by have := sy_len s (m := 19) (by decide); have := eU_len s (x := b.num.toNat) (by omega); rw [List.length_append]; omega)).mono (by omega) (by omega)
  split
  · exact (h.put (k := 50) (by have := sy_len s (m := 7) (by decide); have := eU_len s (x := b.num.toNat) (by omega); rw [List.length_append]; omega)).mono (by omega) (by omega)
  split
  · exact (h.put (sy_len s (by omega))).mono (by omega) (by omega)
  · exact h.mono (by omega) (by omega)
theorem Es.Le.bits (s : Bool) : ∀ (l : List Bt) (e : Es) (a c : Nat) (_ : e.Le n a c) (_ : ∀ b ∈ l, b.Ok) (_ : a + 20 * l.length ≤ 900000), (e.bits s l).Le n (a + 20 * l.length) (c + 1500 * l.length)
  | [], _, _, _, h, _, _ => h
  | b :: l, e, a, c, h, hb, hl => by
    have hl' : a + 20 * (l.length + 1) ≤ 900000 := by simpa using hl
    have h1 := Es.Le.bits s l (e.bit s b) (a + 20) (c + 1500) (h.bit s (hb b (by simp)) (by omega)) (fun u hu => hb u (by simp [hu])) (by omega)
    show ((e.bit s b).bits s l).Le _ _ _
    rw [List.length_cons]
    exact h1.mono (by omega) (by omega)
end
theorem refB_len (s : Bool) {r : Int × Int} (h1 : r.1 ≤ 2147483647) (h2 : r.2 ≤ 2147483647) : (refB s r).length ≤ 80 := by
  have h6 := sy_len s (m := 9) (by decide)
  have h7 := eU_len s (x := r.1.toNat) (by omega)
  have h8 := eU_len s (x := r.2.toNat) (by omega)
  unfold refB
  simp only [List.length_append]
  omega
theorem refsB_len (s : Bool) {rs : List (Int × Int)} (h : ∀ r ∈ rs, r.1 ≤ 2147483647 ∧ r.2 ≤ 2147483647) (hl : rs.length ≤ 1000000) : (refsB s rs).length ≤ 50 + 80 * rs.length := by
  have h6 := sy_len s (m := 8) (by decide)
  have h7 := eU_len s (x := rs.length) (by omega)
  have h8 : ∀ (l : List (Int × Int)) (_ : ∀ r ∈ l, r.1 ≤ 2147483647 ∧ r.2 ≤ 2147483647), (l.flatMap (refB s)).length ≤ 80 * l.length := by
    intro l
    induction l with
    | nil => intro _; simp
    | cons r l ih =>
      intro hr
      have h1 := ih (fun u hu => hr u (by simp [hu]))
      have h2 := refB_len s (hr r (by simp)).1 (hr r (by simp)).2
      rw [List.flatMap_cons, List.length_append, List.length_cons]
      omega
  have h9 := h8 rs h
  unfold refsB
  simp only [List.length_append]
  omega
/-- References are numbers of 31 bits. -/
def Es.Ref (e : Es) : Prop := ∀ r ∈ e.rs, (0 ≤ r.1 ∧ r.1 ≤ 2147483647) ∧ (0 ≤ r.2 ∧ r.2 ≤ 2147483647)
section
variable {e : Es} {n a c : Nat}
theorem Es.Ref.ref (h : e.Ref) (s : Bool) {k i : Int} (hk : 0 ≤ k ∧ k ≤ 2147483647) (hi : 0 ≤ i ∧ i ≤ 2147483647) : (e.ref s k i).Ref := fun r hr => by
  have hr : r ∈ Proofs.YtedjadicdodahaaGreatDoor.put e.rs (k, i) := hr
  unfold Proofs.YtedjadicdodahaaGreatDoor.put at hr
  split at hr
  · exact h r hr
  · rcases List.mem_append.1 hr with hr | hr
    · exact h r hr
    · rw [List.mem_singleton.1 hr]
      exact ⟨hk, hi⟩
theorem Es.Ref.str (h : e.Ref) (s : Bool) (t : ByteArray) (hl : e.ss.length ≤ 2000000000) : (e.str s t).Ref := by
  have := idx_le e.ss t
  refine Es.Ref.ref (e := ⟨_, _, _⟩) ?_ s (by omega) (by omega)
  exact h
theorem strs_ref (s : Bool) : ∀ (l : List ByteArray) (e : Es) (_ : e.Ref) (_ : e.ss.length + l.length ≤ 2000000000), (l.foldl (fun e t => e.str s t) e).Ref
  | [], _, h, _ => h
  | t :: l, e, h, hl => by
    have hl' : e.ss.length + (l.length + 1) ≤ 2000000000 := by simpa using hl
    have h4 := put_len e.ss t
    exact strs_ref s l (e.str s t) (h.str s t (by omega)) (by show (Proofs.YtedjadicdodahaaGreatDoor.put e.ss t).length + _ ≤ _; omega)
theorem Es.Ref.bit (h : e.Ref) (s : Bool) {b : Bt} (hb : b.Ok) (hl : e.ss.length ≤ 1000000000) : (e.bit s b).Ref := by
  unfold Es.bit
  split
  · exact h
  split
  · exact h
  split
  · exact h
  split
  · exact h.str s _ (by omega)
  split
  · have := hb.texts.1
    exact strs_ref s _ (e.put _) h (by show e.ss.length + _ ≤ _; omega)
  split
  · rename_i hk
    have := hb.ref hk
    exact h.ref s (by omega) (by omega)
  split
  · exact h
  split
  · exact h
  split
  · exact h
  split
  · exact h
  · exact h
theorem Es.Ref.bits (s : Bool) : ∀ (l : List Bt) (e : Es) (a c : Nat) (_ : e.Ref) (_ : e.Le n a c) (_ : ∀ b ∈ l, b.Ok) (_ : a + 20 * l.length ≤ 900000) (_ : n ≤ 1000000), (e.bits s l).Ref
  | [], _, _, _, h, _, _, _, _ => h
  | b :: l, e, a, c, h, h1, hb, hl, hn => by
    have hl' : a + 20 * (l.length + 1) ≤ 900000 := by simpa using hl
    have h2 := h1.ss
    exact Es.Ref.bits s l (e.bit s b) (a + 20) (c + 1500) (h.bit s (hb b (by simp)) (by omega)) (h1.bit s (hb b (by simp)) (by omega)) (fun u hu => hb u (by simp [hu])) (by omega) hn
end
/-- A package of at most i elements. -/
structure Pk.Le (p : Pk) (i : Nat) : Prop where
  ss : (p 0).length ≤ 1200 * i
  sz : ∀ t ∈ p 0, t.size ≤ 200
  cnt : ∀ k, k ≠ 0 → (p k).length ≤ i
  el : ∀ k, k ≠ 0 → ∀ t ∈ p k, t.size ≤ 200000
theorem Pk.none_le : Pk.none.Le 0 := ⟨by simp [Pk.none], by simp [Pk.none], by simp [Pk.none], by simp [Pk.none]⟩
theorem El.es_le {p : Pk} {i : Nat} (h : p.Le i) (s : Bool) {x : El} (hx : x.Ok) : (x.es s p).Le (1200 * i) 1200 90020 := by
  have hl := hx.len
  have hm := hx.mark
  have h0 : Es.Le ⟨p 0, [], sy s x.mark.toNat⟩ (1200 * i) 0 20 := ⟨h.ss, by simp, sy_len s (by omega), h.sz⟩
  exact (Es.Le.bits s x.bits.l _ 0 20 h0 hx.bits (by omega)).mono (by omega) (by omega)
theorem El.es_ref {p : Pk} {i : Nat} (h : p.Le i) (hi : i ≤ 100) (s : Bool) {x : El} (hx : x.Ok) : (x.es s p).Ref := by
  have hl := hx.len
  have hm := hx.mark
  have h0 : Es.Le ⟨p 0, [], sy s x.mark.toNat⟩ (1200 * i) 0 20 := ⟨h.ss, by simp, sy_len s (by omega), h.sz⟩
  exact Es.Ref.bits s x.bits.l _ 0 20 (fun r hr => by simp at hr) h0 hx.bits (by omega) (by omega)
theorem El.bytes_len {p : Pk} {i : Nat} (h : p.Le i) (hi : i ≤ 100) (s : Bool) {x : El} (hx : x.Ok) : ((x.es s p).bytes s).length ≤ 200000 := by
  have h1 := El.es_le h s hx
  have h2 := El.es_ref h hi s hx
  have h3 := h1.rs
  have h4 := refsB_len s (rs := (x.es s p).rs) (fun r hr => ⟨(h2 r hr).1.2, (h2 r hr).2.2⟩) (by omega)
  have h5 := h1.ds
  unfold Es.bytes
  rw [List.length_append]
  omega
theorem Pk.Le.elem {p : Pk} {i : Nat} (h : p.Le i) (hi : i ≤ 100) (s : Bool) {x : El} (hx : x.Ok) : (p.elem s x).Le (i + 1) := by
  have h1 := El.es_le h s hx
  have h2 := El.bytes_len h hi s hx
  have h3 := hx.sec
  refine ⟨?_, ?_, fun k hk => ?_, fun k hk t ht => ?_⟩
  · have := h1.ss
    show (x.es s p).ss.length ≤ _
    omega
  · exact h1.sz
  · have := h.cnt k hk
    unfold Pk.elem
    rw [if_neg hk]
    split
    · rw [List.length_append, List.length_singleton]; omega
    · omega
  · unfold Pk.elem at ht
    rw [if_neg hk] at ht
    split at ht
    · rcases List.mem_append.1 ht with ht | ht
      · exact h.el k hk t ht
      · rw [List.mem_singleton.1 ht, str_size]
        exact h2
    · exact h.el k hk t ht
theorem Pk.all_le (s : Bool) (l : List El) (hl : l.length ≤ 60) (hx : ∀ x ∈ l, x.Ok) : ∀ i, i ≤ l.length → (Pk.all s (l.take i)).Le i
  | 0, _ => by simpa [Pk.all] using Pk.none_le
  | i + 1, h => by
    rw [List.take_succ_eq_append_getElem (by omega), Pk.all_snoc]
    exact (Pk.all_le s l hl hx i (by omega)).elem (by omega) s (hx _ (List.getElem_mem _))
end Go.Proofs.YtedjadicdodahaaGreatDoor

namespace Go.Proofs.YtedjadicdodahaaGreatDoor

/-- A state that has grown. -/
structure Es.Pre (e f : Es) : Prop where
  ss : e.ss <+: f.ss
  rs : e.rs <+: f.rs
section
variable {e f g : Es}
theorem Es.Pre.refl (e : Es) : e.Pre e := ⟨List.prefix_refl _, List.prefix_refl _⟩
theorem Es.Pre.trans (h : e.Pre f) (k : f.Pre g) : e.Pre g := ⟨h.ss.trans k.ss, h.rs.trans k.rs⟩
theorem Es.pre_put (e : Es) (b : List UInt8) : e.Pre (e.put b) := ⟨List.prefix_refl _, List.prefix_refl _⟩
theorem Es.pre_ref (e : Es) (s : Bool) (k i : Int) : e.Pre (e.ref s k i) := ⟨List.prefix_refl _, put_pre _ _⟩
theorem Es.pre_str (e : Es) (s : Bool) (t : ByteArray) : e.Pre (e.str s t) := ⟨put_pre _ _, put_pre _ _⟩
theorem Es.pre_strs_go (s : Bool) : ∀ (l : List ByteArray) (e : Es), e.Pre (l.foldl (fun e t => e.str s t) e)
  | [], e => Es.Pre.refl e
  | t :: l, e => (e.pre_str s t).trans (Es.pre_strs_go s l (e.str s t))
theorem Es.pre_bit (e : Es) (s : Bool) (b : Bt) : e.Pre (e.bit s b) := by
  unfold Es.bit
  split
  · exact e.pre_put _
  split
  · exact e.pre_put _
  split
  · exact e.pre_put _
  split
  · exact e.pre_str s _
  split
  · exact (e.pre_put _).trans (Es.pre_strs_go s _ _)
  split
  · exact e.pre_ref s _ _
  split
  · exact e.pre_put _
  split
  · exact e.pre_put _
  split
  · exact e.pre_put _
  split
  · exact e.pre_put _
  · exact Es.Pre.refl e
theorem Es.pre_bits (s : Bool) : ∀ (l : List Bt) (e : Es), e.Pre (e.bits s l)
  | [], e => Es.Pre.refl e
  | b :: l, e => (e.pre_bit s b).trans (Es.pre_bits s l (e.bit s b))
end
/-! The bytes of each value. -/
def refD (s : Bool) (k i : Int) (e : Es) : List UInt8 := sy s 10 ++ eU s (idx e.rs (k, i))
def strD (s : Bool) (t : ByteArray) (e : Es) : List UInt8 := sy s 5 ++ refD s 0 (idx e.ss t : Nat) e
def strsD (s : Bool) : List ByteArray → Es → List UInt8
  | [], _ => []
  | t :: l, e => strD s t e ++ strsD s l (e.str s t)
theorem ref_ds (e : Es) (s : Bool) (k i : Int) : (e.ref s k i).ds = e.ds ++ refD s k i e := rfl
theorem str_ds (e : Es) (s : Bool) (t : ByteArray) : (e.str s t).ds = e.ds ++ strD s t e := by
  show (e.ds ++ sy s 5) ++ _ = _
  rw [List.append_assoc]
  rfl
theorem strs_ds (s : Bool) : ∀ (l : List ByteArray) (e : Es), (l.foldl (fun e t => e.str s t) e).ds = e.ds ++ strsD s l e
  | [], e => by simp [strsD]
  | t :: l, e => by
    show (l.foldl (fun e t => e.str s t) (e.str s t)).ds = _
    rw [strs_ds s l (e.str s t), str_ds, List.append_assoc]
    rfl
/-- What does not hang on the bytes. -/
theorem strD_ds (s : Bool) (t : ByteArray) (e : Es) (b : List UInt8) : strD s t ⟨e.ss, e.rs, b⟩ = strD s t e := rfl
def bitD (s : Bool) (b : Bt) (e : Es) : List UInt8 :=
  if b.kind = 0 then eB s (decide (b.num ≠ 0))
  else if b.kind = 1 ∨ b.kind = 4 then eI s b.num
  else if b.kind = 2 ∨ b.kind = 3 ∨ b.kind = 5 then eU s (b.num % 18446744073709551616).toNat
  else if b.kind = 6 then strD s b.text e
  else if b.kind = 7 then eU s b.texts.l.length ++ strsD s b.texts.l (e.put (eU s b.texts.l.length))
  else if b.kind = 8 then refD s b.sec b.num e
  else if b.kind = 9 then sy s 25 ++ eU s b.num.toNat
  else if b.kind = 10 then sy s 19 ++ eU s b.num.toNat
  else if b.kind = 11 then sy s 7 ++ eU s b.num.toNat
  else if b.kind = 12 then sy s b.num.toNat
  else []
theorem bit_ds (e : Es) (s : Bool) (b : Bt) : (e.bit s b).ds = e.ds ++ bitD s b e := by
  unfold Es.bit bitD
  split
  · rfl
  split
  · rfl
  split
  · rfl
  split
  · exact str_ds e s _
  split
  · show (b.texts.l.foldl (fun e t => e.str s t) (e.put (eU s b.texts.l.length))).ds = _
    rw [strs_ds]
    show (e.ds ++ _) ++ _ = _
    rw [List.append_assoc]
  split
  · rfl
  split
  · rfl
  split
  · rfl
  split
  · rfl
  split
  · rfl
  · simp
def bitsD (s : Bool) : List Bt → Es → List UInt8
  | [], _ => []
  | b :: l, e => bitD s b e ++ bitsD s l (e.bit s b)
theorem bits_ds (s : Bool) : ∀ (l : List Bt) (e : Es), (e.bits s l).ds = e.ds ++ bitsD s l e
  | [], e => by simp [bitsD, Es.bits]
  | b :: l, e => by
    show ((e.bit s b).bits s l).ds = _
    rw [bits_ds s l (e.bit s b), bit_ds, List.append_assoc]
    rfl
theorem bitsD_drop (s : Bool) : ∀ (l : List Bt) (e : Es) (i : Nat) (h : i < l.length), bitsD s (l.drop i) (e.bits s (l.take i)) = bitD s l[i] (e.bits s (l.take i)) ++ bitsD s (l.drop (i + 1)) (e.bits s (l.take (i + 1)))
  | l, e, i, h => by
    rw [List.drop_eq_getElem_cons h, List.take_succ_eq_append_getElem h, Es.bits_snoc]
    rfl
/-! The package grows. -/
theorem Pk.elem_pre (p : Pk) (s : Bool) {x : El} (k : Nat) : p k <+: p.elem s x k := by
  unfold Pk.elem
  split
  · rename_i h
    subst h
    exact (Es.pre_bits s x.bits.l ⟨p 0, [], sy s x.mark.toNat⟩).ss
  · split
    · exact List.prefix_append _ _
    · exact List.prefix_refl _
theorem Pk.all_pre_go (s : Bool) (k : Nat) : ∀ (l : List El) (p : Pk), p k <+: l.foldl (fun p x => p.elem s x) p k
  | [], _ => List.prefix_refl _
  | x :: l, p => (p.elem_pre s k).trans (Pk.all_pre_go s k l (p.elem s x))
theorem Pk.all_append (s : Bool) (l m : List El) : Pk.all s (l ++ m) = m.foldl (fun p x => p.elem s x) (Pk.all s l) := by simp [Pk.all]
theorem Pk.all_pre (s : Bool) (l : List El) (i k : Nat) : Pk.all s (l.take i) k <+: Pk.all s l k := by
  have h := Pk.all_pre_go s k (l.drop i) (Pk.all s (l.take i))
  rw [← Pk.all_append, List.take_append_drop] at h
  exact h
/-- Where an element stands, and that its strings stand at the head of the package's. -/
theorem Pk.all_at (s : Bool) (l : List El) (i : Nat) (h : i < l.length) (hx : l[i].Ok) :
    (Pk.all s l l[i].sec.toNat)[(Pk.all s (l.take i) l[i].sec.toNat).length]? = some (str ((l[i].es s (Pk.all s (l.take i))).bytes s)) ∧ (l[i].es s (Pk.all s (l.take i))).ss <+: Pk.all s l 0 := by
  have hs := hx.sec
  have h1 : ∀ k, Pk.all s (l.take (i + 1)) k <+: Pk.all s l k := Pk.all_pre s l (i + 1)
  rw [List.take_succ_eq_append_getElem h, Pk.all_snoc] at h1
  refine ⟨pre_at (h1 _) ?_, ?_⟩
  · unfold Pk.elem
    rw [if_neg (by omega), if_pos rfl]
    simp
  · exact h1 0
/-! How many elements a section has: the strings each once; the others one by one. -/
def distinct (l : List ByteArray) : List ByteArray := l.foldl Proofs.YtedjadicdodahaaGreatDoor.put []
def bitTexts (b : Bt) : List ByteArray := if b.kind = 6 then [b.text] else if b.kind = 7 then b.texts.l else []
def elTexts (x : El) : List ByteArray := x.bits.l.flatMap bitTexts
def texts (l : List El) : List ByteArray := l.flatMap elTexts
theorem strs_ss (s : Bool) : ∀ (l : List ByteArray) (e : Es), (l.foldl (fun e t => e.str s t) e).ss = l.foldl Proofs.YtedjadicdodahaaGreatDoor.put e.ss
  | [], _ => rfl
  | t :: l, e => strs_ss s l (e.str s t)
theorem bit_ss (e : Es) (s : Bool) (b : Bt) : (e.bit s b).ss = (bitTexts b).foldl Proofs.YtedjadicdodahaaGreatDoor.put e.ss := by
  unfold Es.bit bitTexts
  by_cases h6 : b.kind = 6
  · simp only [h6, if_true]
    rfl
  by_cases h7 : b.kind = 7
  · simp only [h7, if_true]
    exact strs_ss s _ _
  rw [if_neg h6, if_neg h7, if_neg h6, if_neg h7]
  repeat' split
  all_goals rfl
theorem bits_ss (s : Bool) : ∀ (l : List Bt) (e : Es), (e.bits s l).ss = (l.flatMap bitTexts).foldl Proofs.YtedjadicdodahaaGreatDoor.put e.ss
  | [], _ => rfl
  | b :: l, e => by
    show ((e.bit s b).bits s l).ss = _
    rw [bits_ss s l, bit_ss, List.flatMap_cons, List.foldl_append]
theorem all_ss_go (s : Bool) : ∀ (l : List El) (p : Pk), l.foldl (fun p x => p.elem s x) p 0 = (texts l).foldl Proofs.YtedjadicdodahaaGreatDoor.put (p 0)
  | [], _ => rfl
  | x :: l, p => by
    show l.foldl (fun p x => p.elem s x) (p.elem s x) 0 = _
    rw [all_ss_go s l, texts, texts, List.flatMap_cons, List.foldl_append]
    congr 1
    exact bits_ss s x.bits.l ⟨p 0, [], sy s x.mark.toNat⟩
theorem all_ss (s : Bool) (l : List El) : Pk.all s l 0 = distinct (texts l) := all_ss_go s l Pk.none
def countOf (l : List El) (k : Int) : Nat := (l.filter fun x => decide (x.sec = k)).length
theorem all_cnt_go (s : Bool) (k : Nat) (hk : k ≠ 0) : ∀ (l : List El) (p : Pk) (_ : ∀ x ∈ l, x.Ok), (l.foldl (fun p x => p.elem s x) p k).length = (p k).length + countOf l k
  | [], _, _ => rfl
  | x :: l, p, h => by
    show (l.foldl (fun p x => p.elem s x) (p.elem s x) k).length = _
    have hx := (h x (by simp)).sec
    rw [all_cnt_go s k hk l _ (fun y hy => h y (by simp [hy]))]
    unfold countOf
    rw [List.filter_cons]
    by_cases he : k = x.sec.toNat
    · have h1 : p.elem s x k = p k ++ [str ((x.es s p).bytes s)] := by unfold Pk.elem; rw [if_neg hk, if_pos he]
      rw [h1, if_pos (by simp; omega)]
      simp only [List.length_append, List.length_cons, List.length_nil]
      omega
    · have h1 : p.elem s x k = p k := by unfold Pk.elem; rw [if_neg hk, if_neg he]
      rw [h1, if_neg (by simp; omega)]
theorem all_cnt (s : Bool) (l : List El) (k : Nat) (hk : k ≠ 0) (h : ∀ x ∈ l, x.Ok) : (Pk.all s l k).length = countOf l k := by
  have h1 := all_cnt_go s k hk l Pk.none h
  rw [show (Pk.none k).length = 0 from rfl, Nat.zero_add] at h1
  exact h1
end Go.Proofs.YtedjadicdodahaaGreatDoor

namespace Go.Proofs.YtedjadicdodahaaGreatDoor

def u4s (l : List Nat) : List (List UInt8) := (sums l).map le4
theorem u4s_snoc (l : List Nat) (x : Nat) : u4s (l ++ [x]) = u4s l ++ [le4 (l.sum + x)] := by simp [u4s, sums_snoc]
theorem u4s_nil : u4s [] = [] := rfl
theorem flat_len4 : ∀ (l : List Nat), ((l.map le4).flatten).length = 4 * l.length
  | [] => rfl
  | x :: l => by rw [List.map_cons, List.flatten_cons, List.length_append, flat_len4 l, le4_len, List.length_cons]; omega
theorem u4s_len (l : List Nat) : (u4s l).flatten.length = 4 * l.length := by rw [u4s, flat_len4, sums_len]
def heads (v : Nat) (s : Bool) : List (List UInt8) := le4 v :: (if 1 ≤ v then [le4 (if s then 1 else 0)] else [])
theorem heads_flat (v : Nat) (s : Bool) : (heads v s).flatten = le4 v ++ flagB v s := by
  unfold heads flagB
  split <;> simp
theorem heads_len (v : Nat) (s : Bool) : (heads v s).flatten.length ≤ 8 := by
  unfold heads
  split <;> simp [le4_len]
def Pk.cnt (p : Pk) (i : Nat) : List Nat := (p.secs i).map List.length
theorem Pk.cnt_succ (p : Pk) (i : Nat) : p.cnt (i + 1) = p.cnt i ++ [(p i).length] := by simp [Pk.cnt, Pk.secs_succ]
theorem Pk.cnt_len (p : Pk) (i : Nat) : (p.cnt i).length = i := by simp [Pk.cnt, Pk.secs_len]
theorem Pk.cnt_sum (p : Pk) : ∀ i, (p.cnt i).sum = (p.elems i).length
  | 0 => rfl
  | i + 1 => by rw [Pk.cnt_succ, Pk.elems_succ, List.sum_append, List.length_append, Pk.cnt_sum p i]; simp
def q1 (v : Nat) (s : Bool) (p : Pk) (i : Nat) : List (List UInt8) := heads v s ++ u4s (p.cnt i)
/-- The elements of the sections up to i, and j of the next one. -/
def Pk.upto (p : Pk) (i j : Nat) : List ByteArray := p.elems i ++ (p i).take j
theorem Pk.upto_zero (p : Pk) (i : Nat) : p.upto i 0 = p.elems i := by simp [Pk.upto]
theorem Pk.upto_all (p : Pk) (i : Nat) : p.upto i (p i).length = p.elems (i + 1) := by rw [Pk.upto, List.take_length, Pk.elems_succ]
theorem Pk.upto_succ (p : Pk) (i j : Nat) (t : ByteArray) (h : (p i)[j]? = some t) : p.upto i (j + 1) = p.upto i j ++ [t] := by
  unfold Pk.upto
  rw [List.take_add_one, h, List.append_assoc]
  rfl
theorem Pk.elems_pre (p : Pk) (i n : Nat) (h : i ≤ n) : p.elems i <+: p.elems n := by
  induction n with
  | zero => rw [Nat.le_zero.1 h]; exact List.prefix_refl _
  | succ n ih =>
    rcases Nat.lt_or_ge i (n + 1) with h1 | h1
    · rw [Pk.elems_succ]
      exact (ih (by omega)).trans (List.prefix_append _ _)
    · rw [show i = n + 1 from by omega]
      exact List.prefix_refl _
theorem Pk.upto_pre (p : Pk) (i j n : Nat) (h : i < n) : p.upto i j <+: p.elems n := by
  refine List.IsPrefix.trans ?_ (p.elems_pre (i + 1) n h)
  rw [Pk.elems_succ, Pk.upto]
  exact (List.prefix_append_right_inj _).2 (List.take_prefix _ _)
def szs (l : List ByteArray) : List Nat := l.map ByteArray.size
def dts (l : List ByteArray) : List (List UInt8) := l.map fun t => t.data.toList
theorem dts_len : ∀ l : List ByteArray, (dts l).flatten.length = (szs l).sum
  | [] => rfl
  | t :: l => by
    have h := dts_len l
    unfold dts szs at h ⊢
    rw [List.map_cons, List.flatten_cons, List.length_append, h, List.map_cons, List.sum_cons]
    simp
theorem szs_pre {l k : List ByteArray} (h : l <+: k) : (szs l).sum ≤ (szs k).sum ∧ l.length ≤ k.length := by
  obtain ⟨t, rfl⟩ := h
  unfold szs
  rw [List.map_append, List.sum_append, List.length_append]
  omega
def q2 (v : Nat) (s : Bool) (p : Pk) (l : List ByteArray) : List (List UInt8) := q1 v s p 10 ++ u4s (szs l)
def q3 (v : Nat) (s : Bool) (p : Pk) (l : List ByteArray) : List (List UInt8) := q2 v s p (p.elems 10) ++ dts l
theorem q1_zero (v : Nat) (s : Bool) (p : Pk) : q1 v s p 0 = heads v s := by simp [q1, Pk.cnt, Pk.secs, u4s, sums]
theorem q1_succ (v : Nat) (s : Bool) (p : Pk) (i : Nat) : q1 v s p (i + 1) = q1 v s p i ++ [le4 ((p.elems i).length + (p i).length)] := by
  unfold q1
  rw [Pk.cnt_succ, u4s_snoc, Pk.cnt_sum, List.append_assoc]
theorem q2_zero (v : Nat) (s : Bool) (p : Pk) : q2 v s p (p.upto 0 0) = q1 v s p 10 := by
  rw [Pk.upto_zero]
  show q1 v s p 10 ++ [] = _
  rw [List.append_nil]
theorem q2_snoc (v : Nat) (s : Bool) (p : Pk) (l : List ByteArray) (t : ByteArray) : q2 v s p (l ++ [t]) = q2 v s p l ++ [le4 ((szs l).sum + t.size)] := by
  unfold q2
  rw [show szs (l ++ [t]) = szs l ++ [t.size] from by simp [szs], u4s_snoc, List.append_assoc]
theorem q3_zero (v : Nat) (s : Bool) (p : Pk) : q3 v s p (p.upto 0 0) = q2 v s p (p.elems 10) := by
  rw [Pk.upto_zero]
  show q2 v s p (p.elems 10) ++ [] = _
  rw [List.append_nil]
theorem q3_snoc (v : Nat) (s : Bool) (p : Pk) (l : List ByteArray) (t : ByteArray) : q3 v s p (l ++ [t]) = q3 v s p l ++ [t.data.toList] := by
  unfold q3
  rw [show dts (l ++ [t]) = dts l ++ [t.data.toList] from by simp [dts], List.append_assoc]
theorem q1_len (v : Nat) (s : Bool) (p : Pk) (i : Nat) : (q1 v s p i).flatten.length ≤ 8 + 4 * i := by
  have := heads_len v s
  unfold q1
  rw [List.flatten_append, List.length_append, u4s_len, Pk.cnt_len]
  omega
theorem q2_len (v : Nat) (s : Bool) (p : Pk) (l : List ByteArray) : (q2 v s p l).flatten.length ≤ 48 + 4 * l.length := by
  have := q1_len v s p 10
  unfold q2
  rw [List.flatten_append, List.length_append, u4s_len, szs, List.length_map]
  omega
theorem q3_len (v : Nat) (s : Bool) (p : Pk) (l : List ByteArray) : (q3 v s p l).flatten.length ≤ 48 + 4 * (p.elems 10).length + (szs l).sum := by
  have := q2_len v s p (p.elems 10)
  unfold q3
  rw [List.flatten_append, List.length_append, dts_len]
  omega
theorem map_flatMap4 (l : List Nat) : (l.map le4).flatten = l.flatMap le4 := by rw [List.flatMap_def]
theorem q3_body (v : Nat) (s : Bool) (p : Pk) : (q3 v s p (p.elems 10)).flatten = p.body v s := by
  unfold q3 q2 q1 Pk.body
  rw [List.flatten_append, List.flatten_append, List.flatten_append, heads_flat]
  simp only [List.append_assoc]
  unfold u4s Pk.cnt szs dts
  rw [map_flatMap4, map_flatMap4]
  rfl
end Go.Proofs.YtedjadicdodahaaGreatDoor
