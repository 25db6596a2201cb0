/- What is known of a function, as bytes: where each part stands. -/
import Derived.Test.YtnbojmciolecgaaDoorFunB
namespace Go.Proofs.YtnbojmciolecgaaDoor
open Go.RowKit

section
variable (args locals id flag line : Int) (files : List Int) (tree : List Nd)
theorem funBytes_length : (funBytes args locals id flag line files tree).length = 24 + 4 * files.length + 24 * tree.length := by
  simp only [funBytes, List.length_append, le4_length, flatMap_le4_length, flatMap_node_length, List.length_cons, List.length_nil]
  omega
theorem has_args : Has (funBytes args locals id flag line files tree) 0 (le4 args) := (Has.refl _).left
theorem has_locals : Has (funBytes args locals id flag line files tree) 4 (le4 locals) := ((Has.refl _).right rfl).left
theorem has_ids : Has (funBytes args locals id flag line files tree) 8 [id, flag, 0, 0] := (((Has.refl _).right rfl).right rfl).left
theorem has_line : Has (funBytes args locals id flag line files tree) 12 (le4 line) := ((((Has.refl _).right rfl).right rfl).right rfl).left
theorem has_nf : Has (funBytes args locals id flag line files tree) 16 (le4 files.length) := (((((Has.refl _).right rfl).right rfl).right rfl).right rfl).left
theorem has_files : Has (funBytes args locals id flag line files tree) 20 (files.flatMap le4 ++ (le4 tree.length ++ tree.flatMap Nd.bytes)) := (((((Has.refl _).right rfl).right rfl).right rfl).right rfl).right rfl
theorem has_file (k : Nat) (h : k < files.length) : Has (funBytes args locals id flag line files tree) (20 + 4 * k) (le4 files[k]) := by
  have h1 := (has_files args locals id flag line files tree).left
  have h2 := has_flatMap (f := le4) (n := 4) files (fun _ _ => rfl) k h
  intro j z hz
  rw [Nat.add_assoc]
  exact h1 _ z (h2 j z hz)
theorem has_nt : Has (funBytes args locals id flag line files tree) (20 + 4 * files.length) (le4 tree.length) :=
  ((has_files args locals id flag line files tree).right (by rw [flatMap_le4_length])).left
theorem has_node (k : Nat) (h : k < tree.length) : Has (funBytes args locals id flag line files tree) (24 + 4 * files.length + 24 * k) (Nd.bytes tree[k]) := by
  have h1 := ((has_files args locals id flag line files tree).right (q := 20 + 4 * files.length) (by rw [flatMap_le4_length])).right (q := 24 + 4 * files.length) (by rw [le4_length]; omega)
  have h2 := has_flatMap (f := Nd.bytes) (n := 24) tree (fun _ _ => rfl) k h
  intro j z hz
  rw [Nat.add_assoc]
  exact h1 _ z (h2 j z hz)
end
end Go.Proofs.YtnbojmciolecgaaDoor
