/- A writer kept: what other steps leave of it; bytes of a string. -/
import Derived.Lib.ConvBytes
import Derived.Test.YtajeinkkfggcbaaGreatDoorBuf
import Derived.Test.YtajeinkkfggcbaaGreatDoorArgs
import Derived.Test.YtajeinkkfggcbaaGreatDoorSlB
namespace Go.Proofs.YtajeinkkfggcbaaGreatDoor
open Go.RowKit

/-- The world behind []byte(s). -/
theorem below_bytes (w : World) (e : TypeId) (s : ByteArray) : Below w.heap.size w (Lib.bytesWorld w e s) := ⟨rfl, rfl, rfl, by rw [Lib.bytesWorld_size]; omega, fun k hk => Lib.bytesWorld_at_old w e s k hk⟩
theorem sli_bytes (w : World) (e : TypeId) (s : ByteArray) : SlI .u8 (Lib.bytesWorld w e s) (some ⟨w.heap.size, 0, none⟩) (sbs s) := fun _ => ⟨_, 0, rfl, fun j z hz => by
  simp only [sbs, List.getElem?_map, Option.map_eq_some_iff] at hz
  obtain ⟨b, hb, rfl⟩ := hz
  have hj : j < s.size := by have := (List.getElem?_eq_some_iff.1 hb).1; simpa using this
  rw [Nat.zero_add, Lib.bytesWorld_cell w e s j hj, List.getD_eq_getElem?_getD, hb]
  rfl⟩
theorem fr_of_grown {w w' : World} {row : Option Nat} (h : w.grownBy w' row) : Fr row.toList w w' :=
  ⟨h.os, h.tape, h.output, h.size, fun k hk hn => h.block k hk (by rintro rfl; simp at hn)⟩
theorem IsWriter.fr {B wb b mb : Nat} {xs : List Int} {gs : List Nat} {w w' : World} (h : IsWriter B wb b mb xs w) (hf : Fr gs w w') (h1 : wb ∉ gs) (h2 : b ∉ gs) (hg : ∀ g, (∃ c fz, w.heap[g]? = some (.cells c 5 fz)) → g ∉ gs) : IsWriter B wb b mb xs w' := by
  obtain ⟨low, ⟨s0, s1, s2, s3, s4, s5, s6, s7, hb⟩, buf⟩ := h
  exact ⟨low, ⟨s0, s1, s2, s3, s4, s5, s6, s7, hb.fr hf h1⟩, isBuffer_fr buf hf h2 hg⟩
theorem IsWriter.here {B wb b mb : Nat} {xs : List Int} {w w' : World} (h : IsWriter B wb b mb xs w) (hb : Below w.heap.size w w') : IsWriter B wb b mb xs w' :=
  h.fr (gs := []) (Fr.of_below hb) (by simp) (by simp) (by simp)
theorem IsWriter.grown {B wb b mb base n : Nat} {e : TypeId} {v : Value} {ys : List Value} {xs : List Int} {w w' : World} (h : IsWriter B wb b mb xs w) (ho : w.ownsRow base e 1 v n ys) (he : e ≠ 5) (h1 : wb < base) (h2 : b < base) (hg : w.grownBy w' v.ownBlock) : IsWriter B wb b mb xs w' := by
  refine h.fr (fr_of_grown hg) ?_ ?_ ?_
  · intro hm
    rw [Option.mem_toList] at hm
    have := (ho.lt _ hm).1
    omega
  · intro hm
    rw [Option.mem_toList] at hm
    have := (ho.lt _ hm).1
    omega
  · rintro g ⟨c, fz, hc⟩ hm
    rw [Option.mem_toList] at hm
    rcases ho.2 with ⟨rfl, _⟩ | ⟨g', cap, cur, rfl, _, hh, _⟩
    · simp [Value.ownBlock] at hm
    · simp only [Value.ownBlock, Option.some.injEq] at hm
      subst hm
      rw [hh] at hc
      injection hc with hc
      injection hc with _ h2 _
      exact he h2
theorem IsWriter.wlt {B wb b mb : Nat} {xs : List Int} {w : World} (h : IsWriter B wb b mb xs w) : wb < w.heap.size := by
  obtain ⟨s0, s1, s2, s3, s4, s5, s6, s7, hb⟩ := h.blk
  exact hb.lt

theorem writer_Offset {B wb b mb : Nat} {xs : List Int} {w : World} (h : IsWriter B wb b mb xs w) : Calls Tryz.prog 40 #[.pointer (some ⟨wb, 0, none⟩)] w (RetQ (.int .u32 xs.length) w) := by
  obtain ⟨s0, s1, s2, s3, s4, s5, s6, s7, hb⟩ := h.blk
  have c2 := hb.cell 2
  clear hb h
  go_enter Tryz.func40, Tryz.ntmps40
  go_wp2_with fail
  go_ret
  exact ⟨rfl, 0, rfl⟩

theorem sli_own {w : World} {base n : Nat} {e : TypeId} {k : IntKind} {A : Option Addr} {c : Nat} {xs : List Int} (h : w.ownsRow base e 1 (.slice A n c) n (xs.map (Value.int k))) : SlI k w A xs := by
  obtain ⟨A', c', e', _, _, s⟩ := SlI.of_own h
  injection e' with h1 _ _
  rw [h1]
  exact s
theorem bytes_src (W : World) (e : TypeId) (t : ByteArray) : ∀ j u, (bcs (sbs t))[j]? = some u → (Lib.bytesWorld W e t).cell? ((⟨W.heap.size, 0, none⟩ : Addr).add j) = some u := fun j u hu => by
  simp only [bcs, List.getElem?_map, Option.map_eq_some_iff] at hu
  obtain ⟨z, hz, rfl⟩ := hu
  obtain ⟨b, o, hb, hc⟩ := sli_bytes W e t (by have := (List.getElem?_eq_some_iff.1 hz).1; omega)
  injection hb with hb
  have h1 := hc j z hz
  rw [← add_at, ← hb] at h1
  exact h1
end Go.Proofs.YtajeinkkfggcbaaGreatDoor
