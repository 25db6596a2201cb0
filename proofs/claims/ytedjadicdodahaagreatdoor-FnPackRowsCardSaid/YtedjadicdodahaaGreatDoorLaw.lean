/- THE FRAME OF A LAW'S ROW, for every program: from 'each call returns true and leaves what was there' to the row's form. No condition of its own. -/
import Derived.ProofKit
import Derived.OpenVars
import Derived.Test.YtedjadicdodahaaGreatDoorRows
namespace Go.Proofs.YtedjadicdodahaaGreatDoor
open Go.ChangeShapes Go.WideShapes Go.ChangeAt Go.RowKit Go.WideElems

/-- One closed fact: each type of a list can be read and is a row of the table. -/
def typesRowed (P : Program) (ts : List TypeId) : Bool := ts.all fun t => P.readableRec t && decide (t < P.types.size)

theorem trodAll_below {H : Type} {enc : TypeId × Value → H} {P : Program} (hl : laidOutB P = true) {W W' : World} (hb : Below W.heap.size W W') :
    ∀ {ts : List TypeId} {vs : List Value} {ds : List (DataW H)} {ps : List MemPlace}, typesRowed P ts = true → DataW.TrodAll enc P W 0 (fun _ => true) true ts vs ds ps → (∀ x ∈ ps, x.block < W.heap.size) →
      DataW.TrodAll enc P W' 0 (fun b => decide (b < W.heap.size)) true ts vs ds ps
  | [], [], [], _, _, h, _ => h
  | [], [], _ :: _, _, _, h, _ => h.elim
  | [], _ :: _, _, _, _, h, _ => h.elim
  | _ :: _, [], _, _, _, h, _ => h.elim
  | _ :: _, _ :: _, [], _, _, h, _ => h.elim
  | t :: ts, v :: vs, d :: ds, ps, ht, ⟨p, q, h1, h2, e⟩, hlt => by
    simp only [typesRowed, List.all_cons, Bool.and_eq_true, decide_eq_true_eq] at ht
    exact ⟨p, q, Below.trod hl ht.1.1 ht.1.2 h1 hb (fun x hx => hlt x (by rw [e]; exact List.mem_append_left _ hx)),
      trodAll_below hl hb (by simpa [typesRowed] using ht.2) h2 (fun x hx => hlt x (by rw [e]; exact List.mem_append_right _ hx)), e⟩

/-- THE ROW's LAST STEP: a law returned true and all that was there is as it was. -/
theorem post_of_law {H : Type} {enc : TypeId × Value → H} {P : Program} {f : Func} {s : ChangeSpec} {apart : Bool} {W W' : World} {args : Array Value} {ds gs : List (DataW H)} {before : List MemPlace} {tb : TypeId}
    (hl : laidOutB P = true) (hts : typesRowed P f.params.toList = true) (hvs : varsRowed P s.vars = true) (hres : f.resultTypes = #[tb]) (htb : P.underlying tb = some .bool)
    (hW : DataW.Whole enc P f.params.toList s.vars apart W args.toList ds gs before) (hb : Below W.heap.size W W')
    (hs : s.fn H (ds ++ gs) = { results := [.lit (.bool true)], args := ds, vars := gs }) :
    s.post enc P f apart true false false W args (.bool true) W' := by
  have hlt := hW.lt
  have hW0 := hW
  obtain ⟨p, q, hA, hV, rfl, _, _⟩ := hW
  refine ⟨ds, gs, p ++ q, [], p, q, hW0, ?_, ?_, ?_, hb.frame _, fun h => by cases h⟩
  · rw [hs, hres]
    exact ⟨[], [], ⟨1, by simp [DataW.trod, htb, Value.cells]⟩, rfl, rfl⟩
  · rw [hs]
    exact trodAll_below hl hb hts hA (fun x hx => hlt x (List.mem_append_left _ hx))
  · rw [hs]
    exact Below.trodVars hl hb hvs hV

/-- What a law's walk ends in: true; all that was there is as it was. -/
def LawEnd (W : World) (e : Ending) (W' : World) : Prop := e = .returned (.bool true) ∧ Below W.heap.size W W'

end Go.Proofs.YtedjadicdodahaaGreatDoor
