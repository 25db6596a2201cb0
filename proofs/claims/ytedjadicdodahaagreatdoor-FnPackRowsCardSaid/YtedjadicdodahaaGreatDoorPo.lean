/- One value more: the bytes of the longer element. -/
import Derived.Test.YtedjadicdodahaaGreatDoorQPe
import Derived.Test.YtedjadicdodahaaGreatDoorRp
namespace Go.Proofs.YtedjadicdodahaaGreatDoor

theorem Bt.Ok.kinds {b : Bt} (h : b.Ok) : 0 ≤ b.kind ∧ b.kind ≤ 12 := h.kind
/-- The longer element's bytes begin with the shorter one's, and are more. -/
theorem elB_more (s : Bool) (m : Int) (l : List Bt) (b : Bt) (hk : 0 ≤ b.kind ∧ b.kind ≤ 12) (h : b.Plain) (h12 : b.kind ≠ 12) :
    (str (elB s m l)).size < (str (elB s m (l ++ [b]))).size ∧ (str (elB s m (l ++ [b]))).extract 0 (str (elB s m l)).size = str (elB s m l) := by
  have h1 := bitB_pos s b hk h h12
  rw [elB_snoc, str_size, str_size, List.length_append]
  refine ⟨by omega, ?_⟩
  have h2 := str_extract [] (elB s m l) (bitB s b)
  rw [List.nil_append, List.length_nil, Nat.zero_add] at h2
  exact h2
theorem all_none_size (s : Bool) (x : El) (hx : x.Ok) (h : ∀ b ∈ x.bits.l, b.Plain) : Pk.all s [x] x.sec.toNat = [str (elB s x.mark x.bits.l)] := by
  rw [all_one s x hx, el_plain s x h]
/-- An element's bytes are fewer than the package's. -/
theorem lt_body (v : Nat) (s : Bool) (p : Pk) (fp : List UInt8) (h8 : fp.length = 8) (k i : Nat) (hk : k < 10) (hi : i < (p k).length) : (p k)[i].size < (str (p.body v s ++ fp)).size := by
  have hm := List.mem_of_getElem? (p.elem_at k i hk hi)
  have h1 : ∀ (L : List ByteArray) (t : ByteArray), t ∈ L → t.size ≤ (L.flatMap fun t => t.data.toList).length := fun L => by
    induction L with
    | nil => intro t ht; simp at ht
    | cons a L ih =>
      intro t ht
      rw [List.flatMap_cons, List.length_append]
      rcases List.mem_cons.1 ht with rfl | ht
      · rw [Array.length_toList]
        show t.size ≤ t.size + _
        omega
      · have := ih t ht
        omega
  have h2 := h1 _ _ hm
  rw [str_size, List.length_append, h8, Pk.body_eq, List.length_append]
  have h3 : p.data.length = ((p.elems 10).flatMap fun t => t.data.toList).length := rfl
  omega
end Go.Proofs.YtedjadicdodahaaGreatDoor
