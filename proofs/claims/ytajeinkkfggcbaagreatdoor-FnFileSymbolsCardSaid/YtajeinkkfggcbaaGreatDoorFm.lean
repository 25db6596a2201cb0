/- An object file as its bytes: the plain model. -/
import Derived.Test.YtajeinkkfggcbaaGreatDoorHas
namespace Go.Proofs.YtajeinkkfggcbaaGreatDoor
open Go.RowKit

theorem le4_len (v : Int) : (le4 v).length = 4 := rfl
/-- A slice: where it lies, its capacity, its elements. -/
structure Sl (α : Type) where
  A : Option Addr
  c : Nat
  l : List α
abbrev Sl.val {α : Type} (s : Sl α) : Value := .slice s.A s.l.length s.c

/-- A symbol without its name. -/
structure Sy where
  (abi kind flag flag2 size align : Int)
abbrev Sy.cells (s : Sy) : List Value := [.int .u16 s.abi, .int .u8 s.kind, .int .u8 s.flag, .int .u8 s.flag2, .int .u32 s.size, .int .u32 s.align]
structure Sy.Ok (s : Sy) : Prop where
  a : 0 ≤ s.abi ∧ s.abi < 65536
  k : 0 ≤ s.kind ∧ s.kind < 256
  f : 0 ≤ s.flag ∧ s.flag < 256
  g : 0 ≤ s.flag2 ∧ s.flag2 < 256
  z : 0 ≤ s.size ∧ s.size < 4294967296
  l : 0 ≤ s.align ∧ s.align < 4294967296
def Sy.bytes (s : Sy) : List Int := le2 s.abi ++ ([s.kind, s.flag, s.flag2] ++ (le4 s.size ++ le4 s.align))
theorem Sy.bytes_length (s : Sy) : s.bytes.length = 13 := rfl

/-- A relocation. -/
structure Rl where
  (off size kind add pkg sym : Int)
abbrev Rl.cells (r : Rl) : List Value := [.int .i32 r.off, .int .u8 r.size, .int .u16 r.kind, .int .i64 r.add, .int .u32 r.pkg, .int .u32 r.sym]
structure Rl.Ok (r : Rl) : Prop where
  o : -2147483648 ≤ r.off ∧ r.off < 2147483648
  s : 0 ≤ r.size ∧ r.size < 256
  k : 0 ≤ r.kind ∧ r.kind < 65536
  d : -9223372036854775808 ≤ r.add ∧ r.add < 9223372036854775808
  p : 0 ≤ r.pkg ∧ r.pkg < 4294967296
  y : 0 ≤ r.sym ∧ r.sym < 4294967296
def Rl.bytes (r : Rl) : List Int := leN 4 r.off ++ ([r.size] ++ (leN 2 r.kind ++ (leN 8 r.add ++ (leN 4 r.pkg ++ leN 4 r.sym))))
theorem Rl.bytes_length (r : Rl) : r.bytes.length = 23 := by simp [Rl.bytes, leN_length]

/-- An auxiliary symbol. -/
structure Ax where
  (kind pkg sym : Int)
abbrev Ax.cells (a : Ax) : List Value := [.int .u8 a.kind, .int .u32 a.pkg, .int .u32 a.sym]
structure Ax.Ok (a : Ax) : Prop where
  k : 0 ≤ a.kind ∧ a.kind < 256
  p : 0 ≤ a.pkg ∧ a.pkg < 4294967296
  y : 0 ≤ a.sym ∧ a.sym < 4294967296
def Ax.bytes (a : Ax) : List Int := [a.kind] ++ (leN 4 a.pkg ++ leN 4 a.sym)
theorem Ax.bytes_length (a : Ax) : a.bytes.length = 9 := by simp [Ax.bytes, leN_length]

/-- Flags of a reference. -/
structure Fl where
  (pkg sym flag flag2 : Int)
abbrev Fl.cells (a : Fl) : List Value := [.int .u32 a.pkg, .int .u32 a.sym, .int .u8 a.flag, .int .u8 a.flag2]
structure Fl.Ok (a : Fl) : Prop where
  p : 0 ≤ a.pkg ∧ a.pkg < 4294967296
  y : 0 ≤ a.sym ∧ a.sym < 4294967296
  f : 0 ≤ a.flag ∧ a.flag < 256
  g : 0 ≤ a.flag2 ∧ a.flag2 < 256
def Fl.bytes (a : Fl) : List Int := (leN 4 a.pkg ++ leN 4 a.sym) ++ [a.flag, a.flag2]
theorem Fl.bytes_length (a : Fl) : a.bytes.length = 10 := by simp [Fl.bytes, leN_length]

/-- A symbol of the file, one that it refers to, a name of another one, an imported package. -/
structure Df where
  name : ByteArray
  sy : Sy
  rs : Sl Rl
  xs : Sl Ax
  data : ByteArray
abbrev Df.cells (d : Df) : List Value := [.string d.name, .int .u16 d.sy.abi, .int .u8 d.sy.kind, .int .u8 d.sy.flag, .int .u8 d.sy.flag2, .int .u32 d.sy.size, .int .u32 d.sy.align, d.rs.val, d.xs.val, .string d.data]
structure Rf where
  name : ByteArray
  sy : Sy
abbrev Rf.cells (d : Rf) : List Value := [.string d.name, .int .u16 d.sy.abi, .int .u8 d.sy.kind, .int .u8 d.sy.flag, .int .u8 d.sy.flag2, .int .u32 d.sy.size, .int .u32 d.sy.align]
structure Nm where
  (pkg sym : Int)
  name : ByteArray
abbrev Nm.cells (n : Nm) : List Value := [.int .u32 n.pkg, .int .u32 n.sym, .string n.name]
structure Im where
  pkg : ByteArray
  fp : List Int
abbrev Im.cells (n : Im) : List Value := .string n.pkg :: n.fp.map (Value.int .u8)

structure FM where
  fp : List Int
  flags : Int
  im : Sl Im
  pk : Sl ByteArray
  fi : Sl ByteArray
  own : Sl Df
  short : Sl Df
  hashed : Sl Df
  other : Sl Df
  refs : Sl Rf
  rf : Sl Fl
  h64 : Sl Int
  hs : Sl (List Int)
  rn : Sl Nm

def FM.lists (f : FM) : List (Sl Df) := [f.own, f.short, f.hashed, f.other]
def FM.all (f : FM) : List Df := f.own.l ++ (f.short.l ++ (f.hashed.l ++ f.other.l))
theorem FM.all_flat (f : FM) : f.all = (f.lists.map Sl.l).flatten := by simp [FM.all, FM.lists]
def FM.names (f : FM) : List ByteArray := ⟨#[]⟩ :: (f.im.l.map Im.pkg ++ (f.pk.l ++ (f.fi.l ++ (f.all.map Df.name ++ (f.refs.l.map Rf.name ++ f.rn.l.map Nm.name)))))

/-! The strings, each once; where each stands. -/
abbrev Tab := List Int × (ByteArray → Option Nat)
def addS (n : Nat) (t : Tab) (s : ByteArray) : Tab := if (t.2 s).isSome then t else (t.1 ++ sbs s, fun u => if u = s then some (n + t.1.length) else t.2 u)
def addAll (n : Nat) (t : Tab) (l : List ByteArray) : Tab := l.foldl (addS n) t
def tab0 : Tab := ([], fun _ => none)
structure TabOk (n : Nat) (t : Tab) : Prop where
  ok : ∀ s o, t.2 s = some o → ∃ p, o = n + p ∧ Has t.1 p (sbs s) ∧ p + s.size ≤ t.1.length
theorem tab0_ok (n : Nat) : TabOk n tab0 := ⟨fun _ _ h => by cases h⟩
theorem addS_ok {n : Nat} {t : Tab} (h : TabOk n t) (s : ByteArray) : TabOk n (addS n t s) := by
  unfold addS
  split
  · exact h
  · refine ⟨fun u o hu => ?_⟩
    simp only at hu ⊢
    split at hu
    · rename_i he
      subst he
      injection hu with hu
      exact ⟨t.1.length, hu.symm, (Has.refl _).behind (by omega), by simp [sbs_length]⟩
    · obtain ⟨p, h1, h2, h3⟩ := h.ok u o hu
      exact ⟨p, h1, h2.more _, by simp; omega⟩
theorem addAll_ok {n : Nat} : ∀ {l : List ByteArray} {t : Tab}, TabOk n t → TabOk n (addAll n t l)
  | [], _, h => h
  | s :: l, _, h => addAll_ok (l := l) (addS_ok h s)
theorem addAll_snoc (n : Nat) (t : Tab) (l : List ByteArray) (s : ByteArray) : addAll n t (l ++ [s]) = addS n (addAll n t l) s := by simp [addAll]
theorem addAll_append (n : Nat) (t : Tab) (l k : List ByteArray) : addAll n t (l ++ k) = addAll n (addAll n t l) k := by simp [addAll]
theorem addS_keeps {n : Nat} {t : Tab} {s u : ByteArray} (h : (t.2 u).isSome = true) : ((addS n t s).2 u).isSome = true := by
  unfold addS
  split
  · exact h
  · simp only
    split
    · rfl
    · exact h
theorem addS_has (n : Nat) (t : Tab) (s : ByteArray) : ((addS n t s).2 s).isSome = true := by
  unfold addS
  split
  · assumption
  · simp
theorem addAll_keeps {n : Nat} {u : ByteArray} : ∀ {l : List ByteArray} {t : Tab}, (t.2 u).isSome = true → ((addAll n t l).2 u).isSome = true
  | [], _, h => h
  | _ :: l, _, h => addAll_keeps (l := l) (addS_keeps h)
theorem addAll_has {n : Nat} {u : ByteArray} : ∀ {l : List ByteArray} {t : Tab}, u ∈ l → ((addAll n t l).2 u).isSome = true
  | [], _, h => by cases h
  | s :: l, t, h => by
    rcases List.mem_cons.1 h with rfl | h
    · exact addAll_keeps (l := l) (addS_has n t u)
    · exact addAll_has (l := l) h
theorem addS_len {n : Nat} {t : Tab} {s : ByteArray} {m : Nat} (h : s.size ≤ m) : (addS n t s).1.length ≤ t.1.length + m := by
  unfold addS
  split
  · omega
  · simp [sbs_length]; omega
theorem addAll_len {n m : Nat} : ∀ {l : List ByteArray} {t : Tab} (_ : ∀ s ∈ l, s.size ≤ m), (addAll n t l).1.length ≤ t.1.length + m * l.length
  | [], _, _ => by simp [addAll]
  | s :: l, t, h => by
    have h1 := addAll_len (n := n) (l := l) (t := addS n t s) (fun u hu => h u (List.mem_cons_of_mem _ hu))
    have h2 := addS_len (n := n) (t := t) (h s (by simp))
    show (addAll n (addS n t s) l).1.length ≤ _
    rw [List.length_cons, Nat.mul_succ]
    omega

def FM.tab (f : FM) : Tab := addAll 96 tab0 f.names
def FM.off (f : FM) (s : ByteArray) : Nat := (f.tab.2 s).getD 0
/-- A string as it is referred to. -/
def FM.sref (f : FM) (s : ByteArray) : List Int := le4 s.size ++ le4 (f.off s)
theorem FM.sref_length (f : FM) (s : ByteArray) : (f.sref s).length = 8 := rfl

/-! The blocks. -/
def FM.imB (f : FM) (x : Im) : List Int := f.sref x.pkg ++ x.fp
def FM.syB (f : FM) (name : ByteArray) (s : Sy) : List Int := f.sref name ++ s.bytes
def FM.nmB (f : FM) (x : Nm) : List Int := (le4 x.pkg ++ le4 x.sym) ++ f.sref x.name
theorem FM.syB_length (f : FM) (n : ByteArray) (s : Sy) : (f.syB n s).length = 21 := rfl
theorem FM.nmB_length (f : FM) (x : Nm) : (f.nmB x).length = 16 := rfl
def cntK (g : Df → Nat) (l : List Df) (k : Nat) : Nat := ((l.take k).map g).sum
/-- Where what belongs to each symbol begins, and where it ends at last. -/
def idxB (g : Df → Nat) (l : List Df) (k : Nat) : List Int := (List.range k).flatMap fun i => le4 (cntK g l i : Nat)
theorem idxB_succ (g : Df → Nat) (l : List Df) (k : Nat) : idxB g l (k + 1) = idxB g l k ++ le4 (cntK g l k : Nat) := by simp [idxB, List.range_succ]
theorem idxB_length (g : Df → Nat) (l : List Df) : ∀ k, (idxB g l k).length = 4 * k
  | 0 => rfl
  | k + 1 => by rw [idxB_succ, List.length_append, idxB_length g l k, le4_len]; omega
def Df.nr (d : Df) : Nat := d.rs.l.length
def Df.nx (d : Df) : Nat := d.xs.l.length
def Df.nd (d : Df) : Nat := d.data.size
def Df.rB (d : Df) : List Int := d.rs.l.flatMap Rl.bytes
def Df.xB (d : Df) : List Int := d.xs.l.flatMap Ax.bytes
def Df.dB (d : Df) : List Int := sbs d.data
def FM.dfB (f : FM) (d : Df) : List Int := f.syB d.name d.sy
def FM.rfB (f : FM) (d : Rf) : List Int := f.syB d.name d.sy
def FM.blks (f : FM) : List (List Int) :=
  [f.im.l.flatMap f.imB, f.pk.l.flatMap f.sref, f.fi.l.flatMap f.sref, f.own.l.flatMap f.dfB, f.short.l.flatMap f.dfB, f.hashed.l.flatMap f.dfB, f.other.l.flatMap f.dfB, f.refs.l.flatMap f.rfB,
   f.rf.l.flatMap Fl.bytes, f.h64.l.flatMap le8, f.hs.l.flatMap id, idxB Df.nr f.all (f.all.length + 1), idxB Df.nx f.all (f.all.length + 1), idxB Df.nd f.all (f.all.length + 1),
   f.all.flatMap Df.rB, f.all.flatMap Df.xB, f.all.flatMap Df.dB, f.rn.l.flatMap f.nmB]
def FM.base (f : FM) : Nat := 96 + f.tab.1.length
def FM.at_ (f : FM) (i : Nat) : Nat := f.base + (f.blks.take i).flatten.length
def FM.offs (f : FM) : List Nat := (List.range 19).map f.at_
def magicB : List Int := [0, 103, 111, 49, 50, 48, 108, 100]
def FM.hdr (f : FM) (os : List Nat) : List Int := magicB ++ (f.fp ++ (le4 f.flags ++ os.flatMap fun (n : Nat) => le4 n))
def FM.bytes (f : FM) : List Int := f.hdr f.offs ++ (f.tab.1 ++ f.blks.flatten)

/-! What is small. -/
structure FM.Small (f : FM) : Prop where
  fp : f.fp.length = 8
  imf : ∀ x ∈ f.im.l, x.fp.length = 8
  hsf : ∀ x ∈ f.hs.l, x.length = 16
  names : ∀ s ∈ f.names, s.size ≤ 100
  data : ∀ d ∈ f.all, d.data.size ≤ 200 ∧ d.rs.l.length ≤ 20 ∧ d.xs.l.length ≤ 20
  all : f.all.length ≤ 60
  im : f.im.l.length ≤ 60
  pk : f.pk.l.length ≤ 60
  fi : f.fi.l.length ≤ 60
  refs : f.refs.l.length ≤ 60
  rf : f.rf.l.length ≤ 60
  rn : f.rn.l.length ≤ 60
  h64 : f.h64.l.length = f.short.l.length
  hs : f.hs.l.length = f.hashed.l.length

theorem flatMap_le {α : Type} {g : α → List Int} {n : Nat} : ∀ (l : List α) (_ : ∀ x ∈ l, (g x).length ≤ n), (l.flatMap g).length ≤ n * l.length
  | [], _ => by simp
  | x :: l, h => by
    rw [List.flatMap_cons, List.length_append, List.length_cons, Nat.mul_succ]
    have h1 := h x (by simp)
    have h2 := flatMap_le l (fun y hy => h y (List.mem_cons_of_mem _ hy))
    omega
theorem FM.data_mem {f : FM} (d : Df) (L : Sl Df) (hL : L ∈ f.lists) (hd : d ∈ L.l) : d ∈ f.all := by
  rw [FM.all_flat]
  exact List.mem_flatten.2 ⟨L.l, List.mem_map_of_mem hL, hd⟩
section
variable {f : FM} (S : f.Small)
include S
theorem FM.Small.own_le : f.own.l.length ≤ 60 := by have := S.all; simp [FM.all] at this; omega
theorem FM.Small.short_le : f.short.l.length ≤ 60 := by have := S.all; simp [FM.all] at this; omega
theorem FM.Small.hashed_le : f.hashed.l.length ≤ 60 := by have := S.all; simp [FM.all] at this; omega
theorem FM.Small.other_le : f.other.l.length ≤ 60 := by have := S.all; simp [FM.all] at this; omega
theorem FM.Small.names_le : f.names.length ≤ 361 := by
  have := S.all; have := S.im; have := S.pk; have := S.fi; have := S.refs; have := S.rn
  simp [FM.names]
  omega
theorem FM.Small.tab_le : f.tab.1.length ≤ 36100 := by
  have h := addAll_len (n := 96) (m := 100) (l := f.names) (t := tab0) S.names
  have := S.names_le
  unfold FM.tab
  simp [tab0] at h ⊢
  omega
theorem FM.Small.imB_len (x : Im) (h : x ∈ f.im.l) : (f.imB x).length = 16 := by simp [FM.imB, FM.sref_length, S.imf x h]
/-- How long each block may be. -/
theorem FM.Small.lens : (f.im.l.flatMap f.imB).length = 16 * f.im.l.length ∧ (f.pk.l.flatMap f.sref).length = 8 * f.pk.l.length ∧ (f.fi.l.flatMap f.sref).length = 8 * f.fi.l.length ∧
    (∀ L : Sl Df, (L.l.flatMap f.dfB).length = 21 * L.l.length) ∧ (f.refs.l.flatMap f.rfB).length = 21 * f.refs.l.length ∧ (f.rf.l.flatMap Fl.bytes).length = 10 * f.rf.l.length ∧ (f.h64.l.flatMap le8).length = 8 * f.h64.l.length ∧ (f.hs.l.flatMap id).length = 16 * f.hs.l.length ∧
    (f.all.flatMap Df.rB).length ≤ 460 * f.all.length ∧ (f.all.flatMap Df.xB).length ≤ 180 * f.all.length ∧ (f.all.flatMap Df.dB).length ≤ 200 * f.all.length ∧ (f.rn.l.flatMap f.nmB).length = 16 * f.rn.l.length := by
  refine ⟨flatMap_length _ S.imB_len, flatMap_length _ (fun _ _ => rfl), flatMap_length _ (fun _ _ => rfl), fun L => flatMap_length _ (fun _ _ => rfl), flatMap_length _ (fun _ _ => rfl), flatMap_length _ (fun x _ => x.bytes_length), flatMap_length _ (fun _ _ => rfl), flatMap_length _ S.hsf, flatMap_le _ (fun d hd => ?_), flatMap_le _ (fun d hd => ?_), flatMap_le _ (fun d hd => ?_), flatMap_length _ (fun _ _ => rfl)⟩
  · have := (S.data d hd).2.1
    unfold Df.rB
    rw [flatMap_length (n := 23) _ (fun r _ => r.bytes_length)]
    omega
  · have := (S.data d hd).2.2
    unfold Df.xB
    rw [flatMap_length (n := 9) _ (fun r _ => r.bytes_length)]
    omega
  · have := (S.data d hd).1
    unfold Df.dB
    rw [sbs_length]
    omega
theorem FM.Small.blks_le : f.blks.flatten.length ≤ 70000 := by
  obtain ⟨h1, h2, h3, h4, h5, h6, h7, h8, h9, h10, h11, h12⟩ := S.lens
  have q1 : (f.im.l.flatMap f.imB).length ≤ 960 := by rw [h1]; have := S.im; omega
  have q2 : (f.pk.l.flatMap f.sref).length ≤ 480 := by rw [h2]; have := S.pk; omega
  have q3 : (f.fi.l.flatMap f.sref).length ≤ 480 := by rw [h3]; have := S.fi; omega
  have q4 : (f.own.l.flatMap f.dfB).length ≤ 1260 := by rw [h4]; have := S.own_le; omega
  have q5 : (f.short.l.flatMap f.dfB).length ≤ 1260 := by rw [h4]; have := S.short_le; omega
  have q6 : (f.hashed.l.flatMap f.dfB).length ≤ 1260 := by rw [h4]; have := S.hashed_le; omega
  have q7 : (f.other.l.flatMap f.dfB).length ≤ 1260 := by rw [h4]; have := S.other_le; omega
  have q8 : (f.refs.l.flatMap f.rfB).length ≤ 1260 := by rw [h5]; have := S.refs; omega
  have q9 : (f.rf.l.flatMap Fl.bytes).length ≤ 600 := by rw [h6]; have := S.rf; omega
  have q10 : (f.h64.l.flatMap le8).length ≤ 480 := by rw [h7, S.h64]; have := S.short_le; omega
  have q11 : (f.hs.l.flatMap id).length ≤ 960 := by rw [h8, S.hs]; have := S.hashed_le; omega
  have q12 : (idxB Df.nr f.all (f.all.length + 1)).length ≤ 244 := by rw [idxB_length]; have := S.all; omega
  have q13 : (idxB Df.nx f.all (f.all.length + 1)).length ≤ 244 := by rw [idxB_length]; have := S.all; omega
  have q14 : (idxB Df.nd f.all (f.all.length + 1)).length ≤ 244 := by rw [idxB_length]; have := S.all; omega
  have q15 : (f.all.flatMap Df.rB).length ≤ 27600 := by have := S.all; omega
  have q16 : (f.all.flatMap Df.xB).length ≤ 10800 := by have := S.all; omega
  have q17 : (f.all.flatMap Df.dB).length ≤ 12000 := by have := S.all; omega
  have q18 : (f.rn.l.flatMap f.nmB).length ≤ 960 := by rw [h12]; have := S.rn; omega
  have e : f.blks.flatten.length = (f.im.l.flatMap f.imB).length + ((f.pk.l.flatMap f.sref).length + ((f.fi.l.flatMap f.sref).length + ((f.own.l.flatMap f.dfB).length + ((f.short.l.flatMap f.dfB).length + ((f.hashed.l.flatMap f.dfB).length + ((f.other.l.flatMap f.dfB).length + ((f.refs.l.flatMap f.rfB).length +
   ((f.rf.l.flatMap Fl.bytes).length + ((f.h64.l.flatMap le8).length + ((f.hs.l.flatMap id).length + ((idxB Df.nr f.all (f.all.length + 1)).length + ((idxB Df.nx f.all (f.all.length + 1)).length + ((idxB Df.nd f.all (f.all.length + 1)).length +
   ((f.all.flatMap Df.rB).length + ((f.all.flatMap Df.xB).length + ((f.all.flatMap Df.dB).length + (f.rn.l.flatMap f.nmB).length)))))))))))))))) := by
    simp only [FM.blks, List.flatten_cons, List.flatten_nil, List.append_nil, List.length_append]
  rw [e]
  clear e h1 h2 h3 h4 h5 h6 h7 h8 h9 h10 h11 h12
  exact Nat.le_trans (Nat.add_le_add q1 (Nat.add_le_add q2 (Nat.add_le_add q3 (Nat.add_le_add q4 (Nat.add_le_add q5 (Nat.add_le_add q6 (Nat.add_le_add q7 (Nat.add_le_add q8 (Nat.add_le_add q9 (Nat.add_le_add q10 (Nat.add_le_add q11 (Nat.add_le_add q12 (Nat.add_le_add q13 (Nat.add_le_add q14 (Nat.add_le_add q15 (Nat.add_le_add q16 (Nat.add_le_add q17 q18))))))))))))))))) (by decide)
theorem FM.hdr_len (os : List Nat) (h : os.length = 19) : (f.hdr os).length = 96 := by
  have h1 : (os.flatMap fun (n : Nat) => le4 n).length = 4 * os.length := flatMap_length _ (fun _ _ => rfl)
  simp [FM.hdr, magicB, S.fp, h1, h, le4_len]
end
theorem FM.offs_len (f : FM) : f.offs.length = 19 := by simp [FM.offs]
theorem FM.take_le (f : FM) (i : Nat) : (f.blks.take i).flatten.length ≤ f.blks.flatten.length := by
  conv => rhs; rw [← List.take_append_drop i f.blks]
  rw [List.flatten_append, List.length_append]
  omega
theorem FM.Small.at_le {f : FM} (S : f.Small) (i : Nat) : f.at_ i ≤ 110000 := by
  have h1 := f.take_le i; have h2 := S.blks_le; have h3 := S.tab_le
  unfold FM.at_ FM.base
  omega
theorem FM.Small.len_le {f : FM} (S : f.Small) : f.bytes.length ≤ 110000 ∧ f.bytes.length = f.at_ 18 := by
  have h1 := S.blks_le; have h3 := S.tab_le; have h4 := FM.hdr_len S f.offs f.offs_len
  unfold FM.bytes FM.at_ FM.base
  rw [List.length_append, List.length_append, h4, show f.blks.take 18 = f.blks from rfl]
  omega
theorem has_flatten : ∀ (L : List (List Int)) (i : Nat) (h : i < L.length), Has L.flatten (L.take i).flatten.length L[i]
  | [], i, h => by simp at h
  | x :: L, 0, _ => by
    rw [List.flatten_cons]
    exact (Has.refl _).more _
  | x :: L, i + 1, h => by
    rw [List.flatten_cons]
    exact (has_flatten L i (by simpa using h)).behind (by simp)
/-- Each block stands where the header says. -/
theorem FM.has_blk {f : FM} (S : f.Small) (i : Nat) (h : i < 18) : Has f.bytes (f.at_ i) (f.blks[i]'h) := by
  have h4 := FM.hdr_len S f.offs f.offs_len
  unfold FM.bytes
  refine ((has_flatten f.blks i h).behind (q := f.tab.1.length + (f.blks.take i).flatten.length) rfl).behind ?_
  unfold FM.at_ FM.base
  omega
/-- A string stands where the table says. -/
theorem FM.has_str {f : FM} (S : f.Small) (s : ByteArray) (hs : s ∈ f.names) : Has f.bytes (f.off s) (sbs s) ∧ f.off s + s.size ≤ f.bytes.length ∧ f.off s ≤ 110000 := by
  have h4 := FM.hdr_len S f.offs f.offs_len
  have hok : TabOk 96 f.tab := addAll_ok (tab0_ok 96)
  have hh := addAll_has (n := 96) (t := tab0) hs
  obtain ⟨o, ho⟩ := Option.isSome_iff_exists.1 hh
  obtain ⟨p, h1, h2, h3⟩ := hok.ok s o ho
  have he : f.off s = 96 + p := by
    have : f.tab.2 s = some o := ho
    simp [FM.off, this, h1]
  have h5 := S.tab_le
  refine ⟨?_, ?_, by omega⟩
  · rw [he]
    unfold FM.bytes
    exact (h2.more _).behind (by rw [h4])
  · unfold FM.bytes
    rw [List.length_append, List.length_append, h4]
    omega
theorem FM.has_hdr {f : FM} {p : Nat} {ys : List Int} (h : Has (f.hdr f.offs) p ys) : Has f.bytes p ys := h.more _
/-- The offsets stand in the header. -/
theorem FM.has_off {f : FM} (S : f.Small) (i : Nat) (h : i < 19) : Has f.bytes (20 + 4 * i) (le4 (f.at_ i : Nat)) := by
  refine FM.has_hdr ?_
  unfold FM.hdr
  have h0 : i < f.offs.length := by simp [FM.offs, h]
  have h1 : Has (f.offs.flatMap fun (n : Nat) => le4 n) (4 * i) (le4 (f.offs[i] : Nat)) := has_flatMap (f := fun (n : Nat) => le4 (n : Int)) f.offs (fun _ _ => rfl) i h0
  have h2 : f.offs[i] = f.at_ i := by simp [FM.offs]
  rw [h2] at h1
  refine (((h1.behind (q := 4 + 4 * i) (by rw [le4_len])).behind (q := 12 + 4 * i) (by rw [S.fp]; omega)).behind (by simp [magicB]; omega))
end Go.Proofs.YtajeinkkfggcbaaGreatDoor
