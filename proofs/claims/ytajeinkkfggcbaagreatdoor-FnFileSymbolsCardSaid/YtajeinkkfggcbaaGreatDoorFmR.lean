/- What stands where in the bytes of an object file. -/
import Derived.Test.YtajeinkkfggcbaaGreatDoorFm
namespace Go.Proofs.YtajeinkkfggcbaaGreatDoor
open Go.RowKit

theorem FM.blks_len (f : FM) : f.blks.length = 18 := rfl
theorem FM.at_succ (f : FM) (i : Nat) (h : i < 18) : f.at_ (i + 1) = f.at_ i + (f.blks[i]'h).length := by
  unfold FM.at_
  rw [List.take_succ_eq_append_getElem (show i < f.blks.length from h), List.flatten_append, List.length_append, List.flatten_cons, List.flatten_nil, List.append_nil]
  omega
theorem has_seg (L : List (List Int)) (i n : Nat) : Has L.flatten (L.take i).flatten.length ((L.drop i).take n).flatten := by
  have e : L.flatten = (L.take i).flatten ++ (((L.drop i).take n).flatten ++ ((L.drop i).drop n).flatten) := by
    rw [← List.flatten_append, ← List.flatten_append, List.take_append_drop, List.take_append_drop]
  intro j z hz
  rw [e]
  exact (((Has.refl ((L.drop i).take n).flatten).more _).behind (by omega)) j z hz
/-- Some blocks in a row. -/
theorem FM.has_blks {f : FM} (S : f.Small) (i n : Nat) : Has f.bytes (f.at_ i) ((f.blks.drop i).take n).flatten := by
  have h4 := FM.hdr_len S f.offs f.offs_len
  unfold FM.bytes
  refine ((has_seg f.blks i n).behind (q := f.tab.1.length + (f.blks.take i).flatten.length) rfl).behind ?_
  unfold FM.at_ FM.base
  omega
theorem Has.trans {xs ys zs : List Int} {p q r : Nat} (h : Has xs p ys) (k : Has ys q zs) (hr : r = p + q) : Has xs r zs := fun j z hz => by
  subst hr
  rw [Nat.add_assoc]
  exact h _ z (k j z hz)
/-- Lists of different lengths, one behind the other. -/
theorem has_flatMapV {α : Type} {g : α → List Int} : ∀ (l : List α) (k : Nat) (h : k < l.length), Has (l.flatMap g) ((l.take k).flatMap g).length (g l[k])
  | [], k, h => by simp at h
  | x :: l, 0, _ => by
    rw [List.flatMap_cons]
    exact (Has.refl _).more _
  | x :: l, k + 1, h => by
    rw [List.flatMap_cons]
    exact (has_flatMapV l k (by simpa using h)).behind (by simp)

/-! The symbols: those with data, then those that are referred to. -/
abbrev Df.sym (d : Df) : ByteArray × Sy := (d.name, d.sy)
abbrev Rf.sym (d : Rf) : ByteArray × Sy := (d.name, d.sy)
def FM.syms (f : FM) : List (ByteArray × Sy) := f.all.map Df.sym ++ f.refs.l.map Rf.sym
theorem flatMap_map' {α β : Type} (l : List α) (u : α → β) (g : β → List Int) : (l.map u).flatMap g = l.flatMap fun x => g (u x) := by
  induction l with
  | nil => rfl
  | cons x l ih => rw [List.map_cons, List.flatMap_cons, List.flatMap_cons, ih]
theorem FM.syms_flat (f : FM) : f.syms.flatMap (fun x => f.syB x.1 x.2) = ((f.blks.drop 3).take 5).flatten := by
  unfold FM.syms FM.all
  rw [List.flatMap_append, flatMap_map', flatMap_map', List.flatMap_append, List.flatMap_append, List.flatMap_append]
  show _ = (f.own.l.flatMap f.dfB ++ (f.short.l.flatMap f.dfB ++ (f.hashed.l.flatMap f.dfB ++ (f.other.l.flatMap f.dfB ++ (f.refs.l.flatMap f.rfB ++ [])))))
  rw [List.append_nil, List.append_assoc, List.append_assoc, List.append_assoc]
  rfl
theorem FM.has_sym {f : FM} (S : f.Small) (i : Nat) (h : i < f.syms.length) : Has f.bytes (f.at_ 3 + 21 * i) (f.syB f.syms[i].1 f.syms[i].2) := by
  have h1 := FM.has_blks S 3 5
  rw [← f.syms_flat] at h1
  exact h1.trans (has_flatMap (f := fun (x : ByteArray × Sy) => f.syB x.1 x.2) (n := 21) f.syms (fun _ _ => rfl) i h) rfl

/-! What belongs to each symbol. -/
theorem cntK_take (g : Df → Nat) (l : List Df) (i : Nat) : cntK g l i = ((l.take i).map g).sum := rfl
theorem cntK_succ (g : Df → Nat) (l : List Df) (i : Nat) (h : i < l.length) : cntK g l (i + 1) = cntK g l i + g l[i] := by
  unfold cntK
  rw [List.take_succ_eq_append_getElem h, List.map_append, List.sum_append, List.map_singleton, List.sum_singleton]
theorem FM.has_idx {f : FM} (S : f.Small) (b : Nat) (hb : b < 18) (g : Df → Nat) (e : f.blks[b]'hb = idxB g f.all (f.all.length + 1)) (i : Nat) (h : i ≤ f.all.length) : Has f.bytes (f.at_ b + 4 * i) (le4 (cntK g f.all i : Nat)) := by
  have h1 := FM.has_blk S b hb
  rw [e] at h1
  have h2 : Has (idxB g f.all (f.all.length + 1)) (4 * i) (le4 (cntK g f.all ((List.range (f.all.length + 1))[i]'(by simp; omega)) : Nat)) := has_flatMap (f := fun i => le4 (cntK g f.all i : Nat)) (List.range (f.all.length + 1)) (fun _ _ => rfl) i (by simp; omega)
  rw [List.getElem_range] at h2
  exact h1.trans h2 rfl
theorem len_rB (l : List Df) : (l.flatMap Df.rB).length = 23 * (l.map Df.nr).sum := by
  induction l with
  | nil => rfl
  | cons x l ih =>
    rw [List.flatMap_cons, List.length_append, ih, List.map_cons, List.sum_cons, Nat.mul_add]
    congr 1
    exact flatMap_length _ (fun r _ => r.bytes_length)
theorem len_xB (l : List Df) : (l.flatMap Df.xB).length = 9 * (l.map Df.nx).sum := by
  induction l with
  | nil => rfl
  | cons x l ih =>
    rw [List.flatMap_cons, List.length_append, ih, List.map_cons, List.sum_cons, Nat.mul_add]
    congr 1
    exact flatMap_length _ (fun r _ => r.bytes_length)
theorem len_dB (l : List Df) : (l.flatMap Df.dB).length = (l.map Df.nd).sum := by
  induction l with
  | nil => rfl
  | cons x l ih =>
    rw [List.flatMap_cons, List.length_append, ih, List.map_cons, List.sum_cons]
    congr 1
    exact sbs_length _
section
variable {f : FM} (S : f.Small) (i : Nat) (h : i < f.all.length)
include S h
theorem FM.has_rel (j : Nat) (hj : j < f.all[i].rs.l.length) : Has f.bytes (f.at_ 14 + 23 * (cntK Df.nr f.all i + j)) (f.all[i].rs.l[j].bytes) := by
  have h1 : Has f.bytes (f.at_ 14) (f.all.flatMap Df.rB) := FM.has_blk S 14 (by omega)
  have h2 := has_flatMapV (g := Df.rB) f.all i h
  rw [len_rB] at h2
  have h3 : Has f.all[i].rB (23 * j) f.all[i].rs.l[j].bytes := has_flatMap (f := Rl.bytes) (n := 23) f.all[i].rs.l (fun r _ => r.bytes_length) j hj
  exact (h1.trans h2 rfl).trans h3 (by rw [Nat.mul_add]; unfold cntK; omega)
theorem FM.has_aux (j : Nat) (hj : j < f.all[i].xs.l.length) : Has f.bytes (f.at_ 15 + 9 * (cntK Df.nx f.all i + j)) (f.all[i].xs.l[j].bytes) := by
  have h1 : Has f.bytes (f.at_ 15) (f.all.flatMap Df.xB) := FM.has_blk S 15 (by omega)
  have h2 := has_flatMapV (g := Df.xB) f.all i h
  rw [len_xB] at h2
  have h3 : Has f.all[i].xB (9 * j) f.all[i].xs.l[j].bytes := has_flatMap (f := Ax.bytes) (n := 9) f.all[i].xs.l (fun r _ => r.bytes_length) j hj
  exact (h1.trans h2 rfl).trans h3 (by rw [Nat.mul_add]; unfold cntK; omega)
theorem FM.has_data : Has f.bytes (f.at_ 16 + cntK Df.nd f.all i) (sbs f.all[i].data) := by
  have h1 : Has f.bytes (f.at_ 16) (f.all.flatMap Df.dB) := FM.has_blk S 16 (by omega)
  have h2 := has_flatMapV (g := Df.dB) f.all i h
  rw [len_dB] at h2
  exact h1.trans h2 rfl
end
theorem sum_cnt_le (g : Df → Nat) (m : Nat) : ∀ (q : List Df) (_ : ∀ d ∈ q, g d ≤ m), (q.map g).sum ≤ m * q.length
  | [], _ => by simp
  | x :: q, h => by
    have h1 := h x (by simp)
    have h2 := sum_cnt_le g m q (fun d hd => h d (by simp [hd]))
    rw [List.map_cons, List.sum_cons, List.length_cons, Nat.mul_succ]
    omega
theorem FM.Small.cnt_le {f : FM} (S : f.Small) (g : Df → Nat) (hg : ∀ d ∈ f.all, g d ≤ 200) (i : Nat) : cntK g f.all i ≤ 12000 := by
  unfold cntK
  have h := sum_cnt_le g 200 (f.all.take i) (fun d hd => hg d (List.mem_of_mem_take hd))
  have := S.all
  have : (f.all.take i).length ≤ 60 := by rw [List.length_take]; omega
  omega
theorem FM.Small.nr_le {f : FM} (S : f.Small) (d : Df) (h : d ∈ f.all) : d.nr ≤ 200 := by have := (S.data d h).2.1; unfold Df.nr; omega
theorem FM.Small.nx_le {f : FM} (S : f.Small) (d : Df) (h : d ∈ f.all) : d.nx ≤ 200 := by have := (S.data d h).2.2; unfold Df.nx; omega
theorem FM.Small.nd_le {f : FM} (S : f.Small) (d : Df) (h : d ∈ f.all) : d.nd ≤ 200 := by have := (S.data d h).1; unfold Df.nd; omega
/-- The offset of a relocation, of an auxiliary symbol, of data: within the bytes. -/
theorem FM.bytes_len {f : FM} (S : f.Small) : f.bytes.length = f.at_ 18 ∧ f.at_ 18 ≤ 110000 ∧ 96 ≤ f.at_ 0 := by
  have h := S.len_le
  refine ⟨h.2, by omega, ?_⟩
  unfold FM.at_ FM.base
  omega
theorem FM.at_mono (f : FM) (i j : Nat) (h : i ≤ j) : f.at_ i ≤ f.at_ j := by
  unfold FM.at_
  have e : (f.blks.take j).take i = f.blks.take i := by rw [List.take_take, Nat.min_eq_left h]
  have h1 : (f.blks.take j).flatten.length = ((f.blks.take j).take i).flatten.length + ((f.blks.take j).drop i).flatten.length := by
    rw [← List.length_append, ← List.flatten_append, List.take_append_drop]
  rw [e] at h1
  omega

/-! The blocks of one width. -/
section
variable {f : FM} (S : f.Small)
include S
theorem FM.has_im (i : Nat) (h : i < f.im.l.length) : Has f.bytes (f.at_ 0 + 16 * i) (f.imB f.im.l[i]) :=
  (show Has f.bytes (f.at_ 0) (f.im.l.flatMap f.imB) from FM.has_blk S 0 (by omega)).trans (has_flatMap (f := f.imB) (n := 16) f.im.l S.imB_len i h) rfl
theorem FM.has_pk (i : Nat) (h : i < f.pk.l.length) : Has f.bytes (f.at_ 1 + 8 * i) (f.sref f.pk.l[i]) :=
  (show Has f.bytes (f.at_ 1) (f.pk.l.flatMap f.sref) from FM.has_blk S 1 (by omega)).trans (has_flatMap (f := f.sref) (n := 8) f.pk.l (fun _ _ => rfl) i h) rfl
theorem FM.has_fi (i : Nat) (h : i < f.fi.l.length) : Has f.bytes (f.at_ 2 + 8 * i) (f.sref f.fi.l[i]) :=
  (show Has f.bytes (f.at_ 2) (f.fi.l.flatMap f.sref) from FM.has_blk S 2 (by omega)).trans (has_flatMap (f := f.sref) (n := 8) f.fi.l (fun _ _ => rfl) i h) rfl
theorem FM.has_rf (i : Nat) (h : i < f.rf.l.length) : Has f.bytes (f.at_ 8 + 10 * i) f.rf.l[i].bytes :=
  (show Has f.bytes (f.at_ 8) (f.rf.l.flatMap Fl.bytes) from FM.has_blk S 8 (by omega)).trans (has_flatMap (f := Fl.bytes) (n := 10) f.rf.l (fun x _ => x.bytes_length) i h) rfl
theorem FM.has_h64 (i : Nat) (h : i < f.h64.l.length) : Has f.bytes (f.at_ 9 + 8 * i) (le8 f.h64.l[i]) :=
  (show Has f.bytes (f.at_ 9) (f.h64.l.flatMap le8) from FM.has_blk S 9 (by omega)).trans (has_flatMap (f := le8) (n := 8) f.h64.l (fun _ _ => rfl) i h) rfl
theorem FM.has_hs (i : Nat) (h : i < f.hs.l.length) : Has f.bytes (f.at_ 10 + 16 * i) f.hs.l[i] :=
  (show Has f.bytes (f.at_ 10) (f.hs.l.flatMap id) from FM.has_blk S 10 (by omega)).trans (has_flatMap (f := id) (n := 16) f.hs.l S.hsf i h) rfl
theorem FM.has_rn (i : Nat) (h : i < f.rn.l.length) : Has f.bytes (f.at_ 17 + 16 * i) (f.nmB f.rn.l[i]) :=
  (show Has f.bytes (f.at_ 17) (f.rn.l.flatMap f.nmB) from FM.has_blk S 17 (by omega)).trans (has_flatMap (f := f.nmB) (n := 16) f.rn.l (fun _ _ => rfl) i h) rfl
omit S in
theorem FM.has_magic : Has f.bytes 0 magicB := FM.has_hdr ((Has.refl magicB).more _)
omit S in
theorem FM.has_fp : Has f.bytes 8 f.fp := FM.has_hdr (((Has.refl f.fp).more _).behind rfl)
theorem FM.has_flags : Has f.bytes 16 (le4 f.flags) := FM.has_hdr ((((Has.refl (le4 f.flags)).more _).behind (q := 8) (by rw [S.fp])).behind rfl)
/-- How long the blocks are. -/
theorem FM.at_lens : f.at_ 1 = f.at_ 0 + 16 * f.im.l.length ∧ f.at_ 2 = f.at_ 1 + 8 * f.pk.l.length ∧ f.at_ 3 = f.at_ 2 + 8 * f.fi.l.length ∧ f.at_ 4 = f.at_ 3 + 21 * f.own.l.length ∧ f.at_ 5 = f.at_ 4 + 21 * f.short.l.length ∧ f.at_ 6 = f.at_ 5 + 21 * f.hashed.l.length ∧ f.at_ 7 = f.at_ 6 + 21 * f.other.l.length ∧
    f.at_ 8 = f.at_ 7 + 21 * f.refs.l.length ∧ f.at_ 9 = f.at_ 8 + 10 * f.rf.l.length ∧ f.at_ 10 = f.at_ 9 + 8 * f.h64.l.length ∧ f.at_ 11 = f.at_ 10 + 16 * f.hs.l.length ∧ f.at_ 12 = f.at_ 11 + 4 * (f.all.length + 1) ∧ f.at_ 13 = f.at_ 12 + 4 * (f.all.length + 1) ∧ f.at_ 14 = f.at_ 13 + 4 * (f.all.length + 1) ∧
    f.at_ 15 = f.at_ 14 + 23 * cntK Df.nr f.all f.all.length ∧ f.at_ 16 = f.at_ 15 + 9 * cntK Df.nx f.all f.all.length ∧ f.at_ 17 = f.at_ 16 + cntK Df.nd f.all f.all.length ∧ f.at_ 18 = f.at_ 17 + 16 * f.rn.l.length := by
  obtain ⟨h1, h2, h3, h4, h5, h6, h7, h8, _, _, _, h12⟩ := S.lens
  refine ⟨?_, ?_, ?_, ?_, ?_, ?_, ?_, ?_, ?_, ?_, ?_, ?_, ?_, ?_, ?_, ?_, ?_, ?_⟩ <;> rw [f.at_succ _ (by omega)] <;> congr 1
  · exact h4 f.own
  · exact h4 f.short
  · exact h4 f.hashed
  · exact h4 f.other
  · exact idxB_length _ _ _
  · exact idxB_length _ _ _
  · exact idxB_length _ _ _
  · show (f.all.flatMap Df.rB).length = _
    rw [len_rB]; simp [cntK]
  · show (f.all.flatMap Df.xB).length = _
    rw [len_xB]; simp [cntK]
  · show (f.all.flatMap Df.dB).length = _
    rw [len_dB]; simp [cntK]
end
/-- The bytes of a string, as a string. -/
theorem str_sbs (s : ByteArray) : (⟨((sbs s).map fun n => UInt8.ofNat n.toNat).toArray⟩ : ByteArray) = s := by
  unfold sbs
  rw [List.map_map]
  have : (fun n : Int => UInt8.ofNat n.toNat) ∘ (fun c : UInt8 => (c.toNat : Int)) = id := by
    funext c
    simp
  rw [this, List.map_id]
abbrev magicS : ByteArray := ⟨#[0, 103, 111, 49, 50, 48, 108, 100]⟩
theorem sbs_magic : sbs magicS = magicB := rfl
end Go.Proofs.YtajeinkkfggcbaaGreatDoor
