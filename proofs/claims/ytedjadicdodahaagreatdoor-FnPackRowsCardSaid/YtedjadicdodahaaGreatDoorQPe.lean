/- Elements without strings and references: their bytes hang on the element alone. -/
import Derived.Test.YtedjadicdodahaaGreatDoorQPk
namespace Go.Proofs.YtedjadicdodahaaGreatDoor

/-- A value without strings and references. -/
def Bt.Plain (b : Bt) : Prop := b.kind ≠ 6 ∧ b.kind ≠ 7 ∧ b.kind ≠ 8
/-- Its bytes. -/
def bitB (s : Bool) (b : Bt) : List UInt8 := bitD s b ⟨[], [], []⟩
theorem bitD_plain (s : Bool) (b : Bt) (h : b.Plain) (e : Es) : bitD s b e = bitB s b := by
  obtain ⟨h6, h7, h8⟩ := h
  unfold bitB bitD
  simp only [if_neg h6, if_neg h7, if_neg h8]
theorem bit_plain (s : Bool) (b : Bt) (h : b.Plain) (e : Es) : e.bit s b = e.put (bitB s b) := by
  rw [← bitD_plain s b h e]
  obtain ⟨h6, h7, h8⟩ := h
  have e1 : (e.bit s b).ss = e.ss ∧ (e.bit s b).rs = e.rs := by
    unfold Es.bit
    simp only [if_neg h6, if_neg h7, if_neg h8]
    split
    · exact ⟨rfl, rfl⟩
    split
    · exact ⟨rfl, rfl⟩
    split
    · exact ⟨rfl, rfl⟩
    split
    · exact ⟨rfl, rfl⟩
    split
    · exact ⟨rfl, rfl⟩
    split
    · exact ⟨rfl, rfl⟩
    split
    · exact ⟨rfl, rfl⟩
    · exact ⟨rfl, rfl⟩
  have e2 := bit_ds e s b
  show e.bit s b = ⟨e.ss, e.rs, e.ds ++ bitD s b e⟩
  rw [← e2, ← e1.1, ← e1.2]
theorem bits_plain (s : Bool) : ∀ (l : List Bt) (_ : ∀ b ∈ l, b.Plain) (e : Es), e.bits s l = e.put (l.flatMap (bitB s))
  | [], _, e => by simp [Es.bits, Es.put]
  | b :: l, h, e => by
    show (e.bit s b).bits s l = _
    rw [bit_plain s b (h b (by simp)) e, bits_plain s l (fun x hx => h x (by simp [hx])) _]
    simp [Es.put]
/-- The bytes of an element of plain values. -/
def elB (s : Bool) (mark : Int) (l : List Bt) : List UInt8 := refsB s [] ++ (sy s mark.toNat ++ l.flatMap (bitB s))
theorem el_plain (s : Bool) (x : El) (h : ∀ b ∈ x.bits.l, b.Plain) (p : Pk) : (x.es s p).bytes s = elB s x.mark x.bits.l := by
  unfold El.es
  rw [bits_plain s _ h]
  rfl
theorem all_one (s : Bool) (x : El) (hx : x.Ok) : Pk.all s [x] x.sec.toNat = [str ((x.es s Pk.none).bytes s)] := by
  have h := hx.sec
  show Pk.none.elem s x x.sec.toNat = _
  unfold Pk.elem
  rw [if_neg (by omega), if_pos rfl]
  rfl
theorem uv_pos (x : Nat) : 1 ≤ (uv x).length := by
  rcases Nat.lt_or_ge x 128 with h | h
  · rw [show uv x = [x.toUInt8] from Lib.uvarint_small h]; simp
  · rw [show uv x = (x % 128 + 128).toUInt8 :: uv (x / 128) from Lib.uvarint_big h]; simp
theorem bitB_pos (s : Bool) (b : Bt) (hk : 0 ≤ b.kind ∧ b.kind ≤ 12) (h : b.Plain) (h12 : b.kind ≠ 12) : 1 ≤ (bitB s b).length := by
  obtain ⟨h6, h7, h8⟩ := h
  have e0 : ∀ x, 1 ≤ (eU s x).length := fun x => by unfold eU; have := uv_pos x; rw [List.length_append]; omega
  unfold bitB bitD
  simp only [if_neg h6, if_neg h7, if_neg h8, if_neg h12]
  split
  · unfold eB; rw [List.length_append, List.length_singleton]; omega
  split
  · unfold eI; have := uv_pos (Lib.zigzag b.num); rw [List.length_append]; omega
  split
  · exact e0 _
  split
  · rw [List.length_append]; have := e0 b.num.toNat; omega
  split
  · rw [List.length_append]; have := e0 b.num.toNat; omega
  split
  · rw [List.length_append]; have := e0 b.num.toNat; omega
  · exfalso; omega
theorem elB_snoc (s : Bool) (m : Int) (l : List Bt) (b : Bt) : elB s m (l ++ [b]) = elB s m l ++ bitB s b := by
  unfold elB
  rw [List.flatMap_append, List.flatMap_cons, List.flatMap_nil, List.append_nil]
  simp only [List.append_assoc]
end Go.Proofs.YtedjadicdodahaaGreatDoor

namespace Go.Proofs.YtedjadicdodahaaGreatDoor

theorem str_at {s : Bool} {e : Es} {t : ByteArray} {rs : List (Int × Int)} {P0 : List ByteArray} (h1 : (e.str s t).rs <+: rs) (h2 : (e.str s t).ss <+: P0) :
    rs[idx e.rs ((0 : Int), (idx e.ss t : Int))]? = some (0, (idx e.ss t : Int)) ∧ P0[idx e.ss t]? = some t := ⟨pre_at h1 (put_at _ _), pre_at h2 (put_at _ _)⟩
theorem ref_at {s : Bool} {e : Es} {k i : Int} {rs : List (Int × Int)} (h1 : (e.ref s k i).rs <+: rs) : rs[idx e.rs (k, i)]? = some (k, i) := pre_at h1 (put_at _ _)
/-- The state behind the first k strings. -/
def strsE (s : Bool) (l : List ByteArray) (e : Es) (k : Nat) : Es := (l.take k).foldl (fun e t => e.str s t) e
theorem strsE_succ (s : Bool) (l : List ByteArray) (e : Es) (k : Nat) (h : k < l.length) : strsE s l e (k + 1) = (strsE s l e k).str s l[k] := by
  unfold strsE
  rw [List.take_succ_eq_append_getElem h, List.foldl_append]
  rfl
theorem strsE_pre (s : Bool) (l : List ByteArray) (e : Es) (k : Nat) : (strsE s l e k).Pre (l.foldl (fun e t => e.str s t) e) := by
  have h := Es.pre_strs_go s (l.drop k) (strsE s l e k)
  unfold strsE at h ⊢
  rw [← List.foldl_append, List.take_append_drop] at h
  exact h
theorem strsD_drop (s : Bool) (l : List ByteArray) (e : Es) (k : Nat) (h : k < l.length) : strsD s (l.drop k) (strsE s l e k) = strD s l[k] (strsE s l e k) ++ strsD s (l.drop (k + 1)) (strsE s l e (k + 1)) := by
  rw [List.drop_eq_getElem_cons h, strsE_succ s l e k h]
  rfl
/-- The state behind the first k values. -/
theorem bitsE_succ (s : Bool) (l : List Bt) (e : Es) (k : Nat) (h : k < l.length) : e.bits s (l.take (k + 1)) = (e.bits s (l.take k)).bit s l[k] := by
  rw [List.take_succ_eq_append_getElem h, Es.bits_snoc]
theorem bitsE_pre (s : Bool) (l : List Bt) (e : Es) (k : Nat) : (e.bits s (l.take k)).Pre (e.bits s l) := by
  have h := Es.pre_bits s (l.drop k) (e.bits s (l.take k))
  have h2 : (e.bits s (l.take k)).bits s (l.drop k) = e.bits s l := by
    unfold Es.bits
    rw [← List.foldl_append, List.take_append_drop]
  rw [h2] at h
  exact h
/-- An element's bytes: the references, the marker, the values. -/
theorem el_bytes (s : Bool) (x : El) (p : Pk) : (x.es s p).bytes s = refsB s (x.es s p).rs ++ (sy s x.mark.toNat ++ bitsD s x.bits.l ⟨p 0, [], sy s x.mark.toNat⟩) := by
  unfold Es.bytes
  congr 1
  exact bits_ds s x.bits.l _
theorem refs_drop (s : Bool) (rs : List (Int × Int)) (k : Nat) (h : k < rs.length) : (rs.drop k).flatMap (refB s) = refB s rs[k] ++ (rs.drop (k + 1)).flatMap (refB s) := by
  rw [List.drop_eq_getElem_cons h, List.flatMap_cons]
end Go.Proofs.YtedjadicdodahaaGreatDoor
