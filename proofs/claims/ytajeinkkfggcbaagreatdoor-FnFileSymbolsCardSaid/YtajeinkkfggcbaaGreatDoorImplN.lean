/- What is read out of an object file: a symbol with its name. (printed by gen_impln.py) -/
import Derived.Test.YtajeinkkfggcbaaGreatDoorToldS
namespace Go.Proofs.YtajeinkkfggcbaaGreatDoor
open Go.RowKit

abbrev nsCells (x : ByteArray × Sy) : List Value := [.string x.1, .int .u16 x.2.abi, .int .u8 x.2.kind, .int .u8 x.2.flag, .int .u8 x.2.flag2, .int .u32 x.2.size, .int .u32 x.2.align]
theorem FM.syms_len (f : FM) : f.syms.length = f.all.length + f.refs.l.length := by simp [FM.syms]
theorem FM.syms_name (f : FM) (i : Nat) (h : i < f.syms.length) : f.syms[i].1 ∈ f.names := by
  have hm : f.syms[i] ∈ f.syms := List.getElem_mem h
  generalize f.syms[i] = x at *
  unfold FM.syms at hm
  simp only [FM.names, List.mem_cons, List.mem_append]
  rcases List.mem_append.1 hm with hm | hm
  · obtain ⟨d, hd, rfl⟩ := List.mem_map.1 hm
    exact .inr (.inr (.inr (.inr (.inl (List.mem_map_of_mem hd)))))
  · obtain ⟨d, hd, rfl⟩ := List.mem_map.1 hm
    exact .inr (.inr (.inr (.inr (.inr (.inl (List.mem_map_of_mem hd))))))
theorem FM.syms_ok {f : FM} {w : World} (h : f.In w) (i : Nat) (hi : i < f.syms.length) : f.syms[i].2.Ok := by
  have hm : f.syms[i] ∈ f.syms := List.getElem_mem hi
  generalize f.syms[i] = x at *
  unfold FM.syms at hm
  rcases List.mem_append.1 hm with hm | hm
  · obtain ⟨d, hd, rfl⟩ := List.mem_map.1 hm
    rw [FM.all_flat] at hd
    obtain ⟨L0, hL0, hd0⟩ := List.mem_flatten.1 hd
    obtain ⟨L1, hL1, rfl⟩ := List.mem_map.1 hL0
    exact ((h.dfs L1 hL1).ok d hd0).sy
  · obtain ⟨d, hd, rfl⟩ := List.mem_map.1 hm
    exact (h.refk d hd).2

section
variable {f : FM} {d o n c : Nat} {w : World} (D : Dat f d o n c w)
include D
set_option maxRecDepth 100000 in
set_option maxHeartbeats 1000000 in
theorem fileSymbol_any (i : Nat) (hi : i < f.syms.length) (ok : f.syms[i].2.Ok) : Calls Tryz.prog 9 #[.slice (some ⟨d, o, none⟩) n c, .int .u32 i] w (RetV (.tuple #[.agg (nsCells f.syms[i]).toArray, .int .i64 f.syms[i].1.size]) w) := by
  have hb0 := later_alloc w (.cells #[.string ⟨#[]⟩, .int .u16 0, .int .u8 0, .int .u8 0, .int .u8 0, .int .u32 0, .int .u32 0] 46)
  have HD := Lib.hid (D.here hb0)
  have RS := Lib.hid (Blk.new w 46 #[.string ⟨#[]⟩, .int .u16 0, .int .u8 0, .int .u8 0, .int .u8 0, .int .u32 0, .int .u32 0])
  have B0 := Lib.hid hb0
  have SM := Lib.hid D.S
  have hn := FM.syms_name f i hi
  have hsz := D.S.names _ hn
  have H := Lib.hid (fun (W : World) (g : Nat) (R : Rdr f false g d o c W) => rdSym_any R D.S i hi)
  have HAS := Lib.hid (fun (W : World) (hW : Dat f d o n c W) => show At W d (o + (f.at_ 3 + 21 * i)) (f.syB f.syms[i].1 f.syms[i].2) from hW.at_.has (FM.has_sym D.S i hi))
  have OK := Lib.hid ok
  have HN := Lib.hid hn
  generalize f.syms[i] = x at *
  obtain ⟨s, y⟩ := x
  dsimp only at OK HN HAS hsz
  generalize o + (f.at_ 3 + 21 * i) = q at *
  have z0 : (0 : Int) ≤ s.size := by omega
  have z1 : (s.size : Int) ≤ 200000 := by omega
  clear D hb0 hi ok hn hsz
  go_enter Tryz.func9, Tryz.ntmps9
  go_wp2_with fail
  refine (HD.out.reader false).mono ?_
  rintro e w1 ⟨g, rfl, _, R1, hb1⟩
  have R := Lib.hid R1
  have B1 := Lib.hid (below_from B0.out hb1)
  have RS1 := Lib.hid (RS.out.here hb1)
  have D1 := Lib.hid (HD.out.here hb1)
  clear R1 hb1
  go_wp2_with fail
  refine (H.out _ _ R.out).mono ?_
  rintro e w2 ⟨rfl, m, rfl⟩
  go_wp2_with fail
  refine (rdSymName (R.out.drewN m) SM.out q d s y (HAS.out _ (D1.out.drewN m)) HN.out).mono ?_
  rintro e w2 ⟨rfl, m2, rfl⟩
  go_wp2_with fail
  refine (toldSym_at f q d s y _ (HAS.out _ (D1.out.drewN _)) OK.out).mono ?_
  rintro e w3 ⟨rfl, hb3⟩
  have RS3 := Lib.hid ((RS1.out.drewN _).here hb3)
  have B3 := Lib.hid (below_from (below_drewN B1.out _) hb3)
  have D3 := Lib.hid ((D1.out.drewN _).here hb3)
  have R3 := Lib.hid ((R.out.drewN _).here hb3)
  clear hb3
  go_wp2_with fail
  refine (rdSymNameLen SM.out q d s y (HAS.out _ D3.out) HN.out).mono ?_
  rintro e w4 ⟨rfl, m4, rfl⟩
  have rc := RS3.out.cell
  have rf := RS3.out.frozen
  go_wp2_with fail
  have hrc := RS3.out.lt
  have hB := B3.out
  exact bodyPost_ret (v := .tuple #[.agg #[.string s, .int .u16 y.abi, .int .u8 y.kind, .int .u8 y.flag, .int .u8 y.flag2, .int .u32 y.size, .int .u32 y.align], .int .i64 s.size]) (by simp [results, Tryz.results9, go_sem, rc]) rfl ⟨rfl, by (repeat' (first | (with_reducible exact Below.refl _ _) | (with_reducible assumption) | (with_reducible refine below_drewN ?_ _) | (with_reducible refine Below.alloc ?_ ?_ _) | (with_reducible refine Below.drew ?_) | (with_reducible refine Below.setCell ?_ ?_ _) | go_size))⟩
end
end Go.Proofs.YtajeinkkfggcbaaGreatDoor
