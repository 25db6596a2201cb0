/- What is read out of an object file: some bytes of it. -/
import Derived.Test.YtimdaolbdgafcaaDoorSlB
import Derived.Test.YtimdaolbdgafcaaDoorImplA
namespace Go.Proofs.YtimdaolbdgafcaaDoor
open Go.RowKit

theorem Tryd.infoU8d : (Tryd.prog.info? 5).map (fun i => (i.zero, i.size, i.bytes)) = some (some (.int .u8 0), 1, 1) := by kernel_rfl
theorem run_strG {w : World} {g o c m : Nat} {xs : List Int} (h : At w g o xs) (hm : xs.length = m) : (convert 35 9 (.slice (some ⟨g, o, none⟩) m c)).run Tryd.prog w = .ok (.string (strOfNums xs)) w :=
  run_convert_bytes_arg (P := Tryd.prog) w 35 5 Tryd.underlying35 Tryd.underlying5 g o m c xs hm (fun i hi => h.getD i (by omega)) 9 Tryd.underlying9
/-- Some bytes of a list. -/
def cut (xs : List Int) (p m : Nat) : List Int := (xs.drop p).take m
theorem cut_len {xs : List Int} {p m : Nat} (h : p + m ≤ xs.length) : (cut xs p m).length = m := by simp [cut]; omega
theorem cut_has (xs : List Int) (p m : Nat) : Has xs p (cut xs p m) := fun j z hz => by
  unfold cut at hz
  have hj := (List.getElem?_eq_some_iff.1 hz).1
  rw [List.length_take] at hj
  rw [List.getElem?_take, if_pos (by omega), List.getElem?_drop] at hz
  exact hz
set_option maxRecDepth 100000 in
theorem stringAtG_any {g d o n c : Nat} {w : World} (hb : w.cell? ⟨g, 0, none⟩ = some (.slice (some ⟨d, o, none⟩) n c)) (hn : n ≤ c) (hc : n ≤ 200000) (hr : w.cell? ⟨g, 1, none⟩ = some (.bool false)) {xs : List Int} (h : At w d o xs) (hl : n = xs.length) (p m : Nat) (hm : 0 < m) (hs : p + m ≤ n) :
    Calls Tryd.prog 57 #[.pointer (some ⟨g, 0, none⟩), .int .u32 p, .int .u32 m] w (RetQ (.string (strOfNums (cut xs p m))) w) := by
  have A := h.has (cut_has xs p m)
  have hst : ∀ c', (convert 35 9 (.slice (some ⟨d, o + p, none⟩) m c')).run Tryd.prog w = .ok (.string (strOfNums (cut xs p m))) w := fun c' => run_strG A (cut_len (by omega))
  have i1 : (p : Int) + m ≤ n := by omega
  have i2 : (n : Int) ≤ c := by omega
  have i3 : (0 : Int) ≤ p := by omega
  have i4 : (n : Int) ≤ 200000 := by omega
  have i5 : (0 : Int) < m := by omega
  have hpc' : c ≠ p := by omega
  generalize strOfNums (cut xs p m) = s at *
  clear h hl A hs hm
  go_enter Tryd.func57, Tryd.ntmps57
  go_wp2_with fail
  go_ret
  exact ⟨rfl, 0, rfl⟩

section
variable {f : FM} {d o n c : Nat} {w : World} (D : Dat f d o n c w)
include D
/-- What reading some bytes leaves. -/
def BytesRead (ys : List Int) (w : World) (e : Ending) (w' : World) : Prop := ∃ A c', e = .returned (.tuple #[.slice A ys.length c', .string (strOfNums ys)]) ∧ SlI .u8 w' A ys ∧ Below w.heap.size w w'
set_option maxRecDepth 100000 in
set_option maxHeartbeats 1000000 in
theorem fileBytes_any (p m : Nat) (hm : 0 < m) (hs : p + m ≤ n) : Calls Tryd.prog 24 #[.slice (some ⟨d, o, none⟩) n c, .int .u32 p, .int .u32 m] w (BytesRead (cut f.bytes p m) w) := by
  obtain ⟨i0, hi, hz0, hz1, hz2⟩ := info_parts Tryd.infoU8d
  have HD := Lib.hid D
  have hlen := D.len
  have hle := D.S.len_le.1
  have HC := Lib.hid (show (cut f.bytes p m).length = m from cut_len (by omega))
  have BA := Lib.hid (fun (W : World) (g : Nat) (R : Rdr f false g d o c W) => bytesAt_any (w := W) R.b R.cap (by omega) p m hm (by omega))
  have SA := Lib.hid (fun (W : World) (g : Nat) (R : Rdr f false g d o c W) => stringAtG_any (w := W) R.b R.cap (by omega) R.ro R.at_ rfl p m hm (by omega))
  have CT := Lib.hid (fun (W : World) (hW : Dat f d o n c W) => show ∀ j u, (bcs (cut f.bytes p m))[j]? = some u → W.cell? ((⟨d, o + p, none⟩ : Addr).add j) = some u from fun j u hu => by
    rw [bcs, List.getElem?_map, Option.map_eq_some_iff] at hu
    obtain ⟨z, hz, rfl⟩ := hu
    rw [Lib.addr_add]
    exact (hW.at_.has (cut_has f.bytes p m)) j z hz)
  have i1 : (0 : Int) < m := by omega
  have i2 : (m : Int) ≤ 110000 := by omega
  have i3 : m ≤ 110000 := by omega
  generalize cut f.bytes p m = ys at *
  clear D hm hs hlen hle
  go_enter Tryd.func24, Tryd.ntmps24
  go_wp2_with fail
  refine (HD.out.reader false).mono ?_
  rintro e w1 ⟨g, rfl, _, R1, hb1⟩
  have R := Lib.hid R1
  have B1 := Lib.hid hb1
  have D1 := Lib.hid (HD.out.here hb1)
  have zb := hb1.size
  clear R1 hb1
  have OW := Lib.hid (World.ownsRow_made (base := w1.heap.size) (e := 5) (size := 1) w1 #[] 0 (Nat.le_refl _) (by simp) (by simp))
  obtain ⟨w2, hw2⟩ : ∃ w2, w2 = w1.alloc (.cells #[] 5) := ⟨_, rfl⟩
  have HW2 := Lib.hid hw2
  have R2 := Lib.hid (show Rdr f false g d o c w2 from by rw [hw2]; exact R.out.here (later_alloc _ _))
  have D2 := Lib.hid (show Dat f d o n c w2 from by rw [hw2]; exact D1.out.here (later_alloc _ _))
  have B2 := Lib.hid (show Below w.heap.size w w2 from by rw [hw2]; exact B1.out.alloc zb _)
  have z2 : w1.heap.size ≤ w2.heap.size := by rw [hw2]; simp
  have OW2 := Lib.hid (show w2.ownsRow w1.heap.size 5 1 (.slice (some ⟨w1.heap.size, 0, none⟩) 0 0) 0 [] from by rw [hw2]; exact OW.out)
  clear hw2 OW
  go_wp2_with fail
  rw [← HW2.out]
  refine (BA.out _ _ R2.out).mono ?_
  rintro e w3 ⟨rfl, m3, rfl⟩
  go_wp2_with (at_builtin; refine wpList_append_sl rfl _ _ 35 rfl w1.heap.size 5 i0 _ 1 1 Tryd.underlying35 hi hz0 hz1 hz2 rfl (by decide) _ 0 [] rfl (own_drewN OW2.out m3) (some ⟨d, o + p, none⟩) m m (bcs ys) rfl (by rw [bcs_length, HC.out]; omega) (fun _ => ⟨_, rfl, CT.out _ (D2.out.drewN m3)⟩) (bcs_one _) (by unfold maxLen; omega) (by omega) z2 ?_; intro A1 C1 w4 hown hgrow)
  have L4 := Lib.hid (below_own (show Below w1.heap.size w1 (w2.drewN m3) from by rw [HW2.out]; exact below_drewN (later_alloc _ _) m3) (own_drewN OW2.out m3) hgrow z2)
  have R4 := Lib.hid (R.out.here L4.out)
  have B4 := Lib.hid (below_from B1.out L4.out)
  have OW4 := Lib.hid hown
  clear hown hgrow HW2 R2 D2 B2 z2 OW2
  go_wp2_with fail
  refine (SA.out _ _ R4.out).mono ?_
  rintro e w5 ⟨rfl, m5, rfl⟩
  go_wp2_with fail
  go_ret2
  obtain ⟨A, c', h1, h2, h3, h4⟩ := SlI.of_own (show w4.ownsRow w1.heap.size 5 1 (.slice A1 (0 + m) C1) (0 + m) (ys.map (Value.int .u8)) from by have h := OW4.out; rw [List.nil_append] at h; exact h)
  injection h1 with e1 e2 e3
  subst e1
  exact ⟨A1, C1, by rw [HC.out]; simp, SlI.heap h4 rfl, below_drewN B4.out m5⟩
end
end Go.Proofs.YtimdaolbdgafcaaDoor
