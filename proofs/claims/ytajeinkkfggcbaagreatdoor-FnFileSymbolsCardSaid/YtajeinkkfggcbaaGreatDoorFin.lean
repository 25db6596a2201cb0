/- A file handed in: where its lists stand in memory. -/
import Derived.Test.YtajeinkkfggcbaaGreatDoorFm
import Derived.Test.YtajeinkkfggcbaaGreatDoorArgs
import Derived.Test.YtajeinkkfggcbaaGreatDoorOpen
namespace Go.Proofs.YtajeinkkfggcbaaGreatDoor
open Go.RowKit

section
variable {α : Type} {f : α → List Value} {n : Nat}
theorem flat_len : ∀ (l : List α) (_ : ∀ x ∈ l, (f x).length = n), (l.flatMap f).length = l.length * n
  | [], _ => by simp
  | x :: l, hf => by
    rw [List.flatMap_cons, List.length_append, hf x (by simp), flat_len l (fun y hy => hf y (List.mem_cons_of_mem _ hy)), List.length_cons, Nat.succ_mul]
    omega
theorem flat_get : ∀ (l : List α) (_ : ∀ x ∈ l, (f x).length = n) (k : Nat) (h : k < l.length) (j : Nat) (_ : j < n), (l.flatMap f)[k * n + j]? = (f l[k])[j]?
  | [], _, k, h, _, _ => by simp at h
  | x :: l, hf, 0, _, j, hj => by
    rw [List.flatMap_cons, Nat.zero_mul, Nat.zero_add, List.getElem?_append_left (by rw [hf x (by simp)]; exact hj)]
    rfl
  | x :: l, hf, k + 1, h, j, hj => by
    have hx := hf x (by simp)
    rw [List.flatMap_cons, List.getElem?_append_right (by rw [hx, Nat.succ_mul]; omega), hx, show (k + 1) * n + j - n = k * n + j from by rw [Nat.succ_mul]; omega]
    exact flat_get l (fun y hy => hf y (List.mem_cons_of_mem _ hy)) k (by simpa using h) j hj
/-- A list handed in, as the source of append. -/
theorem SlR.src {w : World} {A : Option Addr} {l : List α} (h : SlR n w A (l.map f)) (hf : ∀ x ∈ l, (f x).length = n) : 0 < l.length → ∃ ad, A = some ad ∧ ∀ j u, (l.flatMap f)[j]? = some u → w.cell? (ad.add j) = some u := fun h0 => by
  obtain ⟨b, o, e, hc⟩ := h (by simpa using h0)
  refine ⟨_, e, fun i u hu => ?_⟩
  have hi := (List.getElem?_eq_some_iff.1 hu).1
  rw [flat_len l hf] at hi
  have hn : 0 < n := by
    rcases Nat.eq_zero_or_pos n with h1 | h1
    · subst h1; simp at hi
    · exact h1
  have hk : i / n < l.length := Nat.div_lt_of_lt_mul (by rw [Nat.mul_comm]; exact hi)
  have hij : i / n * n + i % n = i := by rw [Nat.mul_comm]; exact Nat.div_add_mod i n
  have hg := flat_get l hf (i / n) hk (i % n) (Nat.mod_lt _ hn)
  rw [hij, hu] at hg
  rw [add_at, ← hij, ← Nat.add_assoc]
  exact hc (i / n) (f l[i / n]) (by rw [List.getElem?_map, List.getElem?_eq_getElem hk]; rfl) (i % n) u hg.symm
/-- A row of the call's own, as a list. -/
theorem SlR.of_own {w : World} {base m c : Nat} {e : TypeId} {A : Option Addr} {l : List α} (h : w.ownsRow base e n (.slice A m c) m (l.flatMap f)) (hf : ∀ x ∈ l, (f x).length = n) (hm : m = l.length) : SlR n w A (l.map f) := fun h0 => by
  subst hm
  rcases h.2 with ⟨h1, h2⟩ | ⟨g, cap, cur, hv, _⟩
  · rw [List.length_map] at h0; omega
  · injection hv with h1 _ _
    subst h1
    refine ⟨g, 0, rfl, fun j cs hj i u hu => ?_⟩
    rw [List.getElem?_map, Option.map_eq_some_iff] at hj
    obtain ⟨x, hx, rfl⟩ := hj
    obtain ⟨hj', rfl⟩ := List.getElem?_eq_some_iff.1 hx
    have hi := (List.getElem?_eq_some_iff.1 hu).1
    have hlen := hf l[j] (List.getElem_mem hj')
    have hg := flat_get l hf j hj' i (by omega)
    rw [hu] at hg
    have := h.cells (g := g) rfl (j * n + i) u hg
    rw [add_at] at this
    rwa [show 0 + j * n + i = 0 + (j * n + i) from by omega]
theorem flat_one (l : List α) (h : ∀ x ∈ l, ∀ v ∈ f x, v.oneCell' = true) : ∀ v ∈ l.flatMap f, v.oneCell' = true := fun v hv => by
  obtain ⟨x, hx, hv⟩ := List.mem_flatMap.1 hv
  exact h x hx v hv
/-- An element of a list that stands in memory. -/
theorem SlR.at_ {w : World} {A : Option Addr} {l : List α} (h : SlR n w A (l.map f)) (k : Nat) (hk : k < l.length) : ∃ b o, A = some ⟨b, o, none⟩ ∧ ∀ i u, (f l[k])[i]? = some u → w.cell? ⟨b, o + k * n + i, none⟩ = some u := by
  obtain ⟨b, o, rfl, hc⟩ := h (by rw [List.length_map]; omega)
  exact ⟨b, o, rfl, fun i u hu => hc k _ (by rw [List.getElem?_map, List.getElem?_eq_getElem hk]; rfl) i u hu⟩
end

abbrev strCells (s : ByteArray) : List Value := [.string s]
abbrev u64Cells (x : Int) : List Value := [.int .u64 x]
abbrev hashCells (x : List Int) : List Value := x.map (Value.int .u8)
structure Df.In (w : World) (d : Df) : Prop where
  rs : SlR 6 w d.rs.A (d.rs.l.map Rl.cells)
  xs : SlR 3 w d.xs.A (d.xs.l.map Ax.cells)
structure Df.Ok (d : Df) : Prop where
  name : d.name.size ≤ maxLen
  sy : d.sy.Ok
  rs : ∀ r ∈ d.rs.l, r.Ok
  xs : ∀ r ∈ d.xs.l, r.Ok
  rl : d.rs.l.length ≤ maxLen
  xl : d.xs.l.length ≤ maxLen
  data : d.data.size ≤ maxLen
structure Dfs.In (w : World) (L : Sl Df) : Prop where
  l : SlR 10 w L.A (L.l.map Df.cells)
  sub : ∀ d ∈ L.l, d.In w
  ok : ∀ d ∈ L.l, d.Ok
  len : L.l.length ≤ maxLen
/-- The file's lists stand in w. -/
structure FM.In (w : World) (f : FM) : Prop where
  fp : f.fp.length = 8 ∧ ∀ z ∈ f.fp, 0 ≤ z ∧ z < 256
  flags : 0 ≤ f.flags ∧ f.flags < 4294967296
  im : SlR 9 w f.im.A (f.im.l.map Im.cells)
  imk : ∀ x ∈ f.im.l, x.pkg.size ≤ maxLen ∧ x.fp.length = 8 ∧ ∀ z ∈ x.fp, 0 ≤ z ∧ z < 256
  iml : f.im.l.length ≤ maxLen
  pk : SlR 1 w f.pk.A (f.pk.l.map strCells)
  pkk : ∀ s ∈ f.pk.l, s.size ≤ maxLen
  pkl : f.pk.l.length ≤ maxLen
  fi : SlR 1 w f.fi.A (f.fi.l.map strCells)
  fik : ∀ s ∈ f.fi.l, s.size ≤ maxLen
  fil : f.fi.l.length ≤ maxLen
  dfs : ∀ L ∈ f.lists, Dfs.In w L
  refs : SlR 7 w f.refs.A (f.refs.l.map Rf.cells)
  refk : ∀ x ∈ f.refs.l, x.name.size ≤ maxLen ∧ x.sy.Ok
  refl : f.refs.l.length ≤ maxLen
  rf : SlR 4 w f.rf.A (f.rf.l.map Fl.cells)
  rfk : ∀ x ∈ f.rf.l, x.Ok
  rfl_ : f.rf.l.length ≤ maxLen
  h64 : SlR 1 w f.h64.A (f.h64.l.map u64Cells)
  h64k : ∀ x ∈ f.h64.l, 0 ≤ x ∧ x < 18446744073709551616
  h64l : f.h64.l.length ≤ maxLen
  hs : SlR 16 w f.hs.A (f.hs.l.map hashCells)
  hsk : ∀ x ∈ f.hs.l, x.length = 16 ∧ ∀ z ∈ x, 0 ≤ z ∧ z < 256
  hsl : f.hs.l.length ≤ maxLen
  rn : SlR 3 w f.rn.A (f.rn.l.map Nm.cells)
  rnk : ∀ x ∈ f.rn.l, (0 ≤ x.pkg ∧ x.pkg < 4294967296) ∧ (0 ≤ x.sym ∧ x.sym < 4294967296) ∧ x.name.size ≤ maxLen
  rnl : f.rn.l.length ≤ maxLen
theorem Df.In.here {w w' : World} {d : Df} (h : d.In w) (hb : Below w.heap.size w w') : d.In w' := ⟨h.rs.here hb, h.xs.here hb⟩
theorem Dfs.In.here {w w' : World} {L : Sl Df} (h : Dfs.In w L) (hb : Below w.heap.size w w') : Dfs.In w' L := ⟨h.l.here hb, fun d hd => (h.sub d hd).here hb, h.ok, h.len⟩
theorem FM.In.here {w w' : World} {f : FM} (h : f.In w) (hb : Below w.heap.size w w') : f.In w' :=
  { h with im := h.im.here hb, pk := h.pk.here hb, fi := h.fi.here hb, dfs := fun L hL => (h.dfs L hL).here hb, refs := h.refs.here hb, rf := h.rf.here hb, h64 := h.h64.here hb, hs := h.hs.here hb, rn := h.rn.here hb }
abbrev fpVals (l : List Int) : List Value := l.map (Value.int .u8)
def FM.cells (f : FM) : List Value := fpVals f.fp ++ [.int .u32 f.flags, f.im.val, f.pk.val, f.fi.val, f.own.val, f.short.val, f.hashed.val, f.other.val, f.refs.val, f.rf.val, f.h64.val, f.hs.val, f.rn.val]
def FM.val (f : FM) : Value := .agg f.cells.toArray

section
variable {H : Type} {enc : TypeId × Value → H} {w : World}
theorem Rd.relocs {v : Value} (h : Rd enc Tryz.prog w 41 [v]) : ∃ L : Sl Rl, v = L.val ∧ SlR 6 w L.A (L.l.map Rl.cells) ∧ (∀ r ∈ L.l, r.Ok) ∧ L.l.length ≤ maxLen := by
  obtain ⟨A, l, c, rfl⟩ := Rd.sl Tryz.underlying41 h
  obtain ⟨xs, rfl, _, h3, h4, h5⟩ := Rd.list Rl.cells Rl.Ok Tryz.underlying41 (show Tryz.prog.cellsOf 53 = 6 by kernel_rfl) (by omega) (fun cs hr => by
    obtain ⟨a, s, k, d, p, y, rfl, b0, b1, b2, b3, b4, b5⟩ := open_impl_Relocation hr
    exact ⟨⟨a, s, k, d, p, y⟩, rfl, ⟨b0, b1, b2, b3, b4, b5⟩⟩) h
  exact ⟨⟨A, c, xs⟩, rfl, h4, h5, h3⟩
theorem Rd.auxs {v : Value} (h : Rd enc Tryz.prog w 42 [v]) : ∃ L : Sl Ax, v = L.val ∧ SlR 3 w L.A (L.l.map Ax.cells) ∧ (∀ r ∈ L.l, r.Ok) ∧ L.l.length ≤ maxLen := by
  obtain ⟨A, l, c, rfl⟩ := Rd.sl Tryz.underlying42 h
  obtain ⟨xs, rfl, _, h3, h4, h5⟩ := Rd.list Ax.cells Ax.Ok Tryz.underlying42 (show Tryz.prog.cellsOf 155 = 3 by kernel_rfl) (by omega) (fun cs hr => by
    obtain ⟨k, p, y, rfl, b0, b1, b2⟩ := open_impl_Auxiliary hr
    exact ⟨⟨k, p, y⟩, rfl, ⟨b0, b1, b2⟩⟩) h
  exact ⟨⟨A, c, xs⟩, rfl, h4, h5, h3⟩
theorem Rd.dfs {v : Value} (h : Rd enc Tryz.prog w 26 [v]) : ∃ L : Sl Df, v = L.val ∧ Dfs.In w L := by
  obtain ⟨A, l, c, rfl⟩ := Rd.sl Tryz.underlying26 h
  obtain ⟨xs, rfl, _, h3, h4, h5⟩ := Rd.list Df.cells (fun d => d.In w ∧ d.Ok) Tryz.underlying26 (show Tryz.prog.cellsOf 44 = 10 by kernel_rfl) (by omega) (fun cs hr => by
    obtain ⟨n, a, k, f, g, z, l, r, x, t, rfl, b0, b1, b2, b3, b4, b5, b6, b7, b8, b9⟩ := open_impl_Defined hr
    obtain ⟨R, rfl, r1, r2, r3⟩ := Rd.relocs b7
    obtain ⟨X, rfl, x1, x2, x3⟩ := Rd.auxs b8
    exact ⟨⟨n, ⟨a, k, f, g, z, l⟩, R, X, t⟩, rfl, ⟨r1, x1⟩, ⟨b0, ⟨b1, b2, b3, b4, b5, b6⟩, r2, x2, r3, x3, b9⟩⟩) h
  exact ⟨⟨A, c, xs⟩, rfl, h4, fun d hd => (h5 d hd).1, fun d hd => (h5 d hd).2, h3⟩
theorem Rd.strs {v : Value} (h : Rd enc Tryz.prog w 25 [v]) : ∃ L : Sl ByteArray, v = L.val ∧ SlR 1 w L.A (L.l.map strCells) ∧ (∀ s ∈ L.l, s.size ≤ maxLen) ∧ L.l.length ≤ maxLen := by
  obtain ⟨A, l, c, rfl⟩ := Rd.sl Tryz.underlying25 h
  obtain ⟨xs, rfl, _, h3, h4, h5⟩ := Rd.list strCells (fun s => s.size ≤ maxLen) Tryz.underlying25 (show Tryz.prog.cellsOf 9 = 1 by kernel_rfl) (by omega) (fun cs hr => by
    obtain ⟨s, rfl, b⟩ := Rd.string Tryz.underlying9 hr
    exact ⟨s, rfl, b⟩) h
  exact ⟨⟨A, c, xs⟩, rfl, h4, h5, h3⟩
theorem Rd.ims {v : Value} (h : Rd enc Tryz.prog w 24 [v]) : ∃ L : Sl Im, v = L.val ∧ SlR 9 w L.A (L.l.map Im.cells) ∧ (∀ x ∈ L.l, x.pkg.size ≤ maxLen ∧ x.fp.length = 8 ∧ ∀ z ∈ x.fp, 0 ≤ z ∧ z < 256) ∧ L.l.length ≤ maxLen := by
  obtain ⟨A, l, c, rfl⟩ := Rd.sl Tryz.underlying24 h
  obtain ⟨xs, rfl, _, h3, h4, h5⟩ := Rd.list Im.cells (fun x => x.pkg.size ≤ maxLen ∧ x.fp.length = 8 ∧ ∀ z ∈ x.fp, 0 ≤ z ∧ z < 256) Tryz.underlying24 (show Tryz.prog.cellsOf 62 = 9 by kernel_rfl) (by omega) (fun cs hr => by
    obtain ⟨s, x0, x1, x2, x3, x4, x5, x6, x7, rfl, b, b0, b1, b2, b3, b4, b5, b6, b7⟩ := open_impl_Import hr
    exact ⟨⟨s, [x0, x1, x2, x3, x4, x5, x6, x7]⟩, rfl, b, rfl, by simp only [List.forall_mem_cons]; exact ⟨b0, b1, b2, b3, b4, b5, b6, b7, by simp⟩⟩) h
  exact ⟨⟨A, c, xs⟩, rfl, h4, h5, h3⟩
theorem Rd.refs {v : Value} (h : Rd enc Tryz.prog w 27 [v]) : ∃ L : Sl Rf, v = L.val ∧ SlR 7 w L.A (L.l.map Rf.cells) ∧ (∀ x ∈ L.l, x.name.size ≤ maxLen ∧ x.sy.Ok) ∧ L.l.length ≤ maxLen := by
  obtain ⟨A, l, c, rfl⟩ := Rd.sl Tryz.underlying27 h
  obtain ⟨xs, rfl, _, h3, h4, h5⟩ := Rd.list Rf.cells (fun x => x.name.size ≤ maxLen ∧ x.sy.Ok) Tryz.underlying27 (show Tryz.prog.cellsOf 46 = 7 by kernel_rfl) (by omega) (fun cs hr => by
    obtain ⟨n, a, k, f, g, z, l, rfl, b0, b1, b2, b3, b4, b5, b6⟩ := open_impl_Referred hr
    exact ⟨⟨n, ⟨a, k, f, g, z, l⟩⟩, rfl, b0, ⟨b1, b2, b3, b4, b5, b6⟩⟩) h
  exact ⟨⟨A, c, xs⟩, rfl, h4, h5, h3⟩
theorem Rd.flags {v : Value} (h : Rd enc Tryz.prog w 28 [v]) : ∃ L : Sl Fl, v = L.val ∧ SlR 4 w L.A (L.l.map Fl.cells) ∧ (∀ x ∈ L.l, x.Ok) ∧ L.l.length ≤ maxLen := by
  obtain ⟨A, l, c, rfl⟩ := Rd.sl Tryz.underlying28 h
  obtain ⟨xs, rfl, _, h3, h4, h5⟩ := Rd.list Fl.cells Fl.Ok Tryz.underlying28 (show Tryz.prog.cellsOf 111 = 4 by kernel_rfl) (by omega) (fun cs hr => by
    obtain ⟨p, y, s, t, rfl, b0, b1, b2, b3⟩ := open_impl_Flagged hr
    exact ⟨⟨p, y, s, t⟩, rfl, ⟨b0, b1, b2, b3⟩⟩) h
  exact ⟨⟨A, c, xs⟩, rfl, h4, h5, h3⟩
theorem Rd.u64s {v : Value} (h : Rd enc Tryz.prog w 29 [v]) : ∃ L : Sl Int, v = L.val ∧ SlR 1 w L.A (L.l.map u64Cells) ∧ (∀ x ∈ L.l, 0 ≤ x ∧ x < 18446744073709551616) ∧ L.l.length ≤ maxLen := by
  obtain ⟨A, l, c, rfl⟩ := Rd.sl Tryz.underlying29 h
  obtain ⟨xs, rfl, _, h3, h4, h5⟩ := Rd.list u64Cells (fun x => 0 ≤ x ∧ x < 18446744073709551616) Tryz.underlying29 (show Tryz.prog.cellsOf 114 = 1 by kernel_rfl) (by omega) (fun cs hr => by
    obtain ⟨s, rfl, b⟩ := Rd.int Tryz.underlying114 hr
    exact ⟨s, rfl, bd_u64 b⟩) h
  exact ⟨⟨A, c, xs⟩, rfl, h4, h5, h3⟩
theorem Rd.hashes {v : Value} (h : Rd enc Tryz.prog w 30 [v]) : ∃ L : Sl (List Int), v = L.val ∧ SlR 16 w L.A (L.l.map hashCells) ∧ (∀ x ∈ L.l, x.length = 16 ∧ ∀ z ∈ x, 0 ≤ z ∧ z < 256) ∧ L.l.length ≤ maxLen := by
  obtain ⟨A, l, c, rfl⟩ := Rd.sl Tryz.underlying30 h
  obtain ⟨xs, rfl, _, h3, h4, h5⟩ := Rd.list hashCells (fun x => x.length = 16 ∧ ∀ z ∈ x, 0 ≤ z ∧ z < 256) Tryz.underlying30 (show Tryz.prog.cellsOf 116 = 16 by kernel_rfl) (by omega) (fun cs hr => by
    obtain ⟨x0, x1, x2, x3, x4, x5, x6, x7, x8, x9, x10, x11, x12, x13, x14, x15, rfl, b0, b1, b2, b3, b4, b5, b6, b7, b8, b9, b10, b11, b12, b13, b14, b15⟩ := open_16_uint8 hr
    exact ⟨[x0, x1, x2, x3, x4, x5, x6, x7, x8, x9, x10, x11, x12, x13, x14, x15], rfl, rfl, by simp only [List.forall_mem_cons]; exact ⟨b0, b1, b2, b3, b4, b5, b6, b7, b8, b9, b10, b11, b12, b13, b14, b15, by simp⟩⟩) h
  exact ⟨⟨A, c, xs⟩, rfl, h4, h5, h3⟩
theorem Rd.names {v : Value} (h : Rd enc Tryz.prog w 31 [v]) : ∃ L : Sl Nm, v = L.val ∧ SlR 3 w L.A (L.l.map Nm.cells) ∧ (∀ x ∈ L.l, (0 ≤ x.pkg ∧ x.pkg < 4294967296) ∧ (0 ≤ x.sym ∧ x.sym < 4294967296) ∧ x.name.size ≤ maxLen) ∧ L.l.length ≤ maxLen := by
  obtain ⟨A, l, c, rfl⟩ := Rd.sl Tryz.underlying31 h
  obtain ⟨xs, rfl, _, h3, h4, h5⟩ := Rd.list Nm.cells (fun x => (0 ≤ x.pkg ∧ x.pkg < 4294967296) ∧ (0 ≤ x.sym ∧ x.sym < 4294967296) ∧ x.name.size ≤ maxLen) Tryz.underlying31 (show Tryz.prog.cellsOf 60 = 3 by kernel_rfl) (by omega) (fun cs hr => by
    obtain ⟨p, y, n, rfl, b0, b1, b2⟩ := open_impl_Named hr
    exact ⟨⟨p, y, n⟩, rfl, b0, b1, b2⟩) h
  exact ⟨⟨A, c, xs⟩, rfl, h4, h5, h3⟩

/-- A file handed in. -/
theorem Rd.file {p0 p1 p2 p3 p4 p5 p6 p7 fl : Int} {v0 v1 v2 v3 v4 v5 v6 v7 v8 v9 v10 v11 : Value} (a0 : 0 ≤ p0 ∧ p0 < 256) (a1 : 0 ≤ p1 ∧ p1 < 256) (a2 : 0 ≤ p2 ∧ p2 < 256) (a3 : 0 ≤ p3 ∧ p3 < 256) (a4 : 0 ≤ p4 ∧ p4 < 256) (a5 : 0 ≤ p5 ∧ p5 < 256) (a6 : 0 ≤ p6 ∧ p6 < 256) (a7 : 0 ≤ p7 ∧ p7 < 256) (af : 0 ≤ fl ∧ fl < 4294967296)
    (h0 : Rd enc Tryz.prog w 24 [v0]) (h1 : Rd enc Tryz.prog w 25 [v1]) (h2 : Rd enc Tryz.prog w 25 [v2]) (h3 : Rd enc Tryz.prog w 26 [v3]) (h4 : Rd enc Tryz.prog w 26 [v4]) (h5 : Rd enc Tryz.prog w 26 [v5]) (h6 : Rd enc Tryz.prog w 26 [v6])
    (h7 : Rd enc Tryz.prog w 27 [v7]) (h8 : Rd enc Tryz.prog w 28 [v8]) (h9 : Rd enc Tryz.prog w 29 [v9]) (h10 : Rd enc Tryz.prog w 30 [v10]) (h11 : Rd enc Tryz.prog w 31 [v11]) :
    ∃ f : FM, FM.In w f ∧ f.val = .agg #[.int .u8 p0, .int .u8 p1, .int .u8 p2, .int .u8 p3, .int .u8 p4, .int .u8 p5, .int .u8 p6, .int .u8 p7, .int .u32 fl, v0, v1, v2, v3, v4, v5, v6, v7, v8, v9, v10, v11] := by
  obtain ⟨im, rfl, i1, i2, i3⟩ := Rd.ims h0
  obtain ⟨pk, rfl, j1, j2, j3⟩ := Rd.strs h1
  obtain ⟨fi, rfl, k1, k2, k3⟩ := Rd.strs h2
  obtain ⟨D0, rfl, d0⟩ := Rd.dfs h3
  obtain ⟨D1, rfl, d1⟩ := Rd.dfs h4
  obtain ⟨D2, rfl, d2⟩ := Rd.dfs h5
  obtain ⟨D3, rfl, d3⟩ := Rd.dfs h6
  obtain ⟨rs, rfl, r1, r2, r3⟩ := Rd.refs h7
  obtain ⟨rf, rfl, s1, s2, s3⟩ := Rd.flags h8
  obtain ⟨u, rfl, u1, u2, u3⟩ := Rd.u64s h9
  obtain ⟨hs, rfl, t1, t2, t3⟩ := Rd.hashes h10
  obtain ⟨n, rfl, n1, n2, n3⟩ := Rd.names h11
  refine ⟨⟨[p0, p1, p2, p3, p4, p5, p6, p7], fl, im, pk, fi, D0, D1, D2, D3, rs, rf, u, hs, n⟩, ⟨⟨rfl, ?_⟩, af, i1, i2, i3, j1, j2, j3, k1, k2, k3, ?_, r1, r2, r3, s1, s2, s3, u1, u2, u3, t1, t2, t3, n1, n2, n3⟩, rfl⟩
  · simp only [List.forall_mem_cons]
    exact ⟨a0, a1, a2, a3, a4, a5, a6, a7, by simp⟩
  · intro L hL
    simp only [FM.lists, List.mem_cons, List.not_mem_nil, or_false] at hL
    rcases hL with rfl | rfl | rfl | rfl <;> assumption
end
end Go.Proofs.YtajeinkkfggcbaaGreatDoor
