/- Which fields a version has: the walk. -/
import Derived.Test.YtnnhdoocklaeoaaDoorMem
import Derived.Deep.DeepHandedRow
import Derived.Lib.LaidTab
namespace Go.Proofs.YtnnhdoocklaeoaaDoor
open Go.RowKit

theorem verHas_0_0 (w : World) (_hi : w.cell? ⟨0, 0, none⟩ = some (.int .u32 1)) (_hr : w.cell? ⟨1, 0, none⟩ = some (.int .u32 0)) :
    Calls Tryd.prog 3 #[.int .i64 0, .int .i64 0] w (LawEnd w) := by
  go_enter Tryd.func3, Tryd.ntmps3
  go_wp2
  go_returns
  exact ⟨by simp, by (repeat' (first | (with_reducible exact Below.refl _ _) | (with_reducible assumption) | (with_reducible refine below_drewN ?_ _) | (with_reducible refine Below.alloc ?_ ?_ _) | (with_reducible refine Below.drew ?_) | (with_reducible refine Below.setCell ?_ ?_ _) | go_size))⟩
theorem verHas_1_0 (w : World) (_hi : w.cell? ⟨0, 0, none⟩ = some (.int .u32 1)) (_hr : w.cell? ⟨1, 0, none⟩ = some (.int .u32 0)) :
    Calls Tryd.prog 3 #[.int .i64 1, .int .i64 0] w (LawEnd w) := by
  go_enter Tryd.func3, Tryd.ntmps3
  go_wp2
  go_returns
  exact ⟨by simp, by (repeat' (first | (with_reducible exact Below.refl _ _) | (with_reducible assumption) | (with_reducible refine below_drewN ?_ _) | (with_reducible refine Below.alloc ?_ ?_ _) | (with_reducible refine Below.drew ?_) | (with_reducible refine Below.setCell ?_ ?_ _) | go_size))⟩
theorem verHas_2_0 (w : World) (_hi : w.cell? ⟨0, 0, none⟩ = some (.int .u32 1)) (_hr : w.cell? ⟨1, 0, none⟩ = some (.int .u32 0)) :
    Calls Tryd.prog 3 #[.int .i64 2, .int .i64 0] w (LawEnd w) := by
  go_enter Tryd.func3, Tryd.ntmps3
  go_wp2
  go_returns
  exact ⟨by simp, by (repeat' (first | (with_reducible exact Below.refl _ _) | (with_reducible assumption) | (with_reducible refine below_drewN ?_ _) | (with_reducible refine Below.alloc ?_ ?_ _) | (with_reducible refine Below.drew ?_) | (with_reducible refine Below.setCell ?_ ?_ _) | go_size))⟩
theorem verHas_3_0 (w : World) (_hi : w.cell? ⟨0, 0, none⟩ = some (.int .u32 1)) (_hr : w.cell? ⟨1, 0, none⟩ = some (.int .u32 0)) :
    Calls Tryd.prog 3 #[.int .i64 3, .int .i64 0] w (LawEnd w) := by
  go_enter Tryd.func3, Tryd.ntmps3
  go_wp2
  go_returns
  exact ⟨by simp, by (repeat' (first | (with_reducible exact Below.refl _ _) | (with_reducible assumption) | (with_reducible refine below_drewN ?_ _) | (with_reducible refine Below.alloc ?_ ?_ _) | (with_reducible refine Below.drew ?_) | (with_reducible refine Below.setCell ?_ ?_ _) | go_size))⟩
theorem verHas_4_0 (w : World) (_hi : w.cell? ⟨0, 0, none⟩ = some (.int .u32 1)) (_hr : w.cell? ⟨1, 0, none⟩ = some (.int .u32 0)) :
    Calls Tryd.prog 3 #[.int .i64 4, .int .i64 0] w (LawEnd w) := by
  go_enter Tryd.func3, Tryd.ntmps3
  go_wp2
  go_returns
  exact ⟨by simp, by (repeat' (first | (with_reducible exact Below.refl _ _) | (with_reducible assumption) | (with_reducible refine below_drewN ?_ _) | (with_reducible refine Below.alloc ?_ ?_ _) | (with_reducible refine Below.drew ?_) | (with_reducible refine Below.setCell ?_ ?_ _) | go_size))⟩
theorem verHas_5_0 (w : World) (_hi : w.cell? ⟨0, 0, none⟩ = some (.int .u32 1)) (_hr : w.cell? ⟨1, 0, none⟩ = some (.int .u32 0)) :
    Calls Tryd.prog 3 #[.int .i64 5, .int .i64 0] w (LawEnd w) := by
  go_enter Tryd.func3, Tryd.ntmps3
  go_wp2
  go_returns
  exact ⟨by simp, by (repeat' (first | (with_reducible exact Below.refl _ _) | (with_reducible assumption) | (with_reducible refine below_drewN ?_ _) | (with_reducible refine Below.alloc ?_ ?_ _) | (with_reducible refine Below.drew ?_) | (with_reducible refine Below.setCell ?_ ?_ _) | go_size))⟩
theorem verHas_0_1 (w : World) (_hi : w.cell? ⟨0, 1, none⟩ = some (.int .u32 0)) (_hr : w.cell? ⟨1, 1, none⟩ = some (.int .u32 2)) :
    Calls Tryd.prog 3 #[.int .i64 0, .int .i64 1] w (LawEnd w) := by
  go_enter Tryd.func3, Tryd.ntmps3
  go_wp2
  go_returns
  exact ⟨by simp, by (repeat' (first | (with_reducible exact Below.refl _ _) | (with_reducible assumption) | (with_reducible refine below_drewN ?_ _) | (with_reducible refine Below.alloc ?_ ?_ _) | (with_reducible refine Below.drew ?_) | (with_reducible refine Below.setCell ?_ ?_ _) | go_size))⟩
theorem verHas_1_1 (w : World) (_hi : w.cell? ⟨0, 1, none⟩ = some (.int .u32 0)) (_hr : w.cell? ⟨1, 1, none⟩ = some (.int .u32 2)) :
    Calls Tryd.prog 3 #[.int .i64 1, .int .i64 1] w (LawEnd w) := by
  go_enter Tryd.func3, Tryd.ntmps3
  go_wp2
  go_returns
  exact ⟨by simp, by (repeat' (first | (with_reducible exact Below.refl _ _) | (with_reducible assumption) | (with_reducible refine below_drewN ?_ _) | (with_reducible refine Below.alloc ?_ ?_ _) | (with_reducible refine Below.drew ?_) | (with_reducible refine Below.setCell ?_ ?_ _) | go_size))⟩
theorem verHas_2_1 (w : World) (_hi : w.cell? ⟨0, 1, none⟩ = some (.int .u32 0)) (_hr : w.cell? ⟨1, 1, none⟩ = some (.int .u32 2)) :
    Calls Tryd.prog 3 #[.int .i64 2, .int .i64 1] w (LawEnd w) := by
  go_enter Tryd.func3, Tryd.ntmps3
  go_wp2
  go_returns
  exact ⟨by simp, by (repeat' (first | (with_reducible exact Below.refl _ _) | (with_reducible assumption) | (with_reducible refine below_drewN ?_ _) | (with_reducible refine Below.alloc ?_ ?_ _) | (with_reducible refine Below.drew ?_) | (with_reducible refine Below.setCell ?_ ?_ _) | go_size))⟩
theorem verHas_3_1 (w : World) (_hi : w.cell? ⟨0, 1, none⟩ = some (.int .u32 0)) (_hr : w.cell? ⟨1, 1, none⟩ = some (.int .u32 2)) :
    Calls Tryd.prog 3 #[.int .i64 3, .int .i64 1] w (LawEnd w) := by
  go_enter Tryd.func3, Tryd.ntmps3
  go_wp2
  go_returns
  exact ⟨by simp, by (repeat' (first | (with_reducible exact Below.refl _ _) | (with_reducible assumption) | (with_reducible refine below_drewN ?_ _) | (with_reducible refine Below.alloc ?_ ?_ _) | (with_reducible refine Below.drew ?_) | (with_reducible refine Below.setCell ?_ ?_ _) | go_size))⟩
theorem verHas_4_1 (w : World) (_hi : w.cell? ⟨0, 1, none⟩ = some (.int .u32 0)) (_hr : w.cell? ⟨1, 1, none⟩ = some (.int .u32 2)) :
    Calls Tryd.prog 3 #[.int .i64 4, .int .i64 1] w (LawEnd w) := by
  go_enter Tryd.func3, Tryd.ntmps3
  go_wp2
  go_returns
  exact ⟨by simp, by (repeat' (first | (with_reducible exact Below.refl _ _) | (with_reducible assumption) | (with_reducible refine below_drewN ?_ _) | (with_reducible refine Below.alloc ?_ ?_ _) | (with_reducible refine Below.drew ?_) | (with_reducible refine Below.setCell ?_ ?_ _) | go_size))⟩
theorem verHas_5_1 (w : World) (_hi : w.cell? ⟨0, 1, none⟩ = some (.int .u32 0)) (_hr : w.cell? ⟨1, 1, none⟩ = some (.int .u32 2)) :
    Calls Tryd.prog 3 #[.int .i64 5, .int .i64 1] w (LawEnd w) := by
  go_enter Tryd.func3, Tryd.ntmps3
  go_wp2
  go_returns
  exact ⟨by simp, by (repeat' (first | (with_reducible exact Below.refl _ _) | (with_reducible assumption) | (with_reducible refine below_drewN ?_ _) | (with_reducible refine Below.alloc ?_ ?_ _) | (with_reducible refine Below.drew ?_) | (with_reducible refine Below.setCell ?_ ?_ _) | go_size))⟩
theorem verHas_0_2 (w : World) (_hi : w.cell? ⟨0, 2, none⟩ = some (.int .u32 0)) (_hr : w.cell? ⟨1, 2, none⟩ = some (.int .u32 2)) :
    Calls Tryd.prog 3 #[.int .i64 0, .int .i64 2] w (LawEnd w) := by
  go_enter Tryd.func3, Tryd.ntmps3
  go_wp2
  go_returns
  exact ⟨by simp, by (repeat' (first | (with_reducible exact Below.refl _ _) | (with_reducible assumption) | (with_reducible refine below_drewN ?_ _) | (with_reducible refine Below.alloc ?_ ?_ _) | (with_reducible refine Below.drew ?_) | (with_reducible refine Below.setCell ?_ ?_ _) | go_size))⟩
theorem verHas_1_2 (w : World) (_hi : w.cell? ⟨0, 2, none⟩ = some (.int .u32 0)) (_hr : w.cell? ⟨1, 2, none⟩ = some (.int .u32 2)) :
    Calls Tryd.prog 3 #[.int .i64 1, .int .i64 2] w (LawEnd w) := by
  go_enter Tryd.func3, Tryd.ntmps3
  go_wp2
  go_returns
  exact ⟨by simp, by (repeat' (first | (with_reducible exact Below.refl _ _) | (with_reducible assumption) | (with_reducible refine below_drewN ?_ _) | (with_reducible refine Below.alloc ?_ ?_ _) | (with_reducible refine Below.drew ?_) | (with_reducible refine Below.setCell ?_ ?_ _) | go_size))⟩
theorem verHas_2_2 (w : World) (_hi : w.cell? ⟨0, 2, none⟩ = some (.int .u32 0)) (_hr : w.cell? ⟨1, 2, none⟩ = some (.int .u32 2)) :
    Calls Tryd.prog 3 #[.int .i64 2, .int .i64 2] w (LawEnd w) := by
  go_enter Tryd.func3, Tryd.ntmps3
  go_wp2
  go_returns
  exact ⟨by simp, by (repeat' (first | (with_reducible exact Below.refl _ _) | (with_reducible assumption) | (with_reducible refine below_drewN ?_ _) | (with_reducible refine Below.alloc ?_ ?_ _) | (with_reducible refine Below.drew ?_) | (with_reducible refine Below.setCell ?_ ?_ _) | go_size))⟩
theorem verHas_3_2 (w : World) (_hi : w.cell? ⟨0, 2, none⟩ = some (.int .u32 0)) (_hr : w.cell? ⟨1, 2, none⟩ = some (.int .u32 2)) :
    Calls Tryd.prog 3 #[.int .i64 3, .int .i64 2] w (LawEnd w) := by
  go_enter Tryd.func3, Tryd.ntmps3
  go_wp2
  go_returns
  exact ⟨by simp, by (repeat' (first | (with_reducible exact Below.refl _ _) | (with_reducible assumption) | (with_reducible refine below_drewN ?_ _) | (with_reducible refine Below.alloc ?_ ?_ _) | (with_reducible refine Below.drew ?_) | (with_reducible refine Below.setCell ?_ ?_ _) | go_size))⟩
theorem verHas_4_2 (w : World) (_hi : w.cell? ⟨0, 2, none⟩ = some (.int .u32 0)) (_hr : w.cell? ⟨1, 2, none⟩ = some (.int .u32 2)) :
    Calls Tryd.prog 3 #[.int .i64 4, .int .i64 2] w (LawEnd w) := by
  go_enter Tryd.func3, Tryd.ntmps3
  go_wp2
  go_returns
  exact ⟨by simp, by (repeat' (first | (with_reducible exact Below.refl _ _) | (with_reducible assumption) | (with_reducible refine below_drewN ?_ _) | (with_reducible refine Below.alloc ?_ ?_ _) | (with_reducible refine Below.drew ?_) | (with_reducible refine Below.setCell ?_ ?_ _) | go_size))⟩
theorem verHas_5_2 (w : World) (_hi : w.cell? ⟨0, 2, none⟩ = some (.int .u32 0)) (_hr : w.cell? ⟨1, 2, none⟩ = some (.int .u32 2)) :
    Calls Tryd.prog 3 #[.int .i64 5, .int .i64 2] w (LawEnd w) := by
  go_enter Tryd.func3, Tryd.ntmps3
  go_wp2
  go_returns
  exact ⟨by simp, by (repeat' (first | (with_reducible exact Below.refl _ _) | (with_reducible assumption) | (with_reducible refine below_drewN ?_ _) | (with_reducible refine Below.alloc ?_ ?_ _) | (with_reducible refine Below.drew ?_) | (with_reducible refine Below.setCell ?_ ?_ _) | go_size))⟩
theorem verHas_0_3 (w : World) (_hi : w.cell? ⟨0, 3, none⟩ = some (.int .u32 2)) (_hr : w.cell? ⟨1, 3, none⟩ = some (.int .u32 0)) :
    Calls Tryd.prog 3 #[.int .i64 0, .int .i64 3] w (LawEnd w) := by
  go_enter Tryd.func3, Tryd.ntmps3
  go_wp2
  go_returns
  exact ⟨by simp, by (repeat' (first | (with_reducible exact Below.refl _ _) | (with_reducible assumption) | (with_reducible refine below_drewN ?_ _) | (with_reducible refine Below.alloc ?_ ?_ _) | (with_reducible refine Below.drew ?_) | (with_reducible refine Below.setCell ?_ ?_ _) | go_size))⟩
theorem verHas_1_3 (w : World) (_hi : w.cell? ⟨0, 3, none⟩ = some (.int .u32 2)) (_hr : w.cell? ⟨1, 3, none⟩ = some (.int .u32 0)) :
    Calls Tryd.prog 3 #[.int .i64 1, .int .i64 3] w (LawEnd w) := by
  go_enter Tryd.func3, Tryd.ntmps3
  go_wp2
  go_returns
  exact ⟨by simp, by (repeat' (first | (with_reducible exact Below.refl _ _) | (with_reducible assumption) | (with_reducible refine below_drewN ?_ _) | (with_reducible refine Below.alloc ?_ ?_ _) | (with_reducible refine Below.drew ?_) | (with_reducible refine Below.setCell ?_ ?_ _) | go_size))⟩
theorem verHas_2_3 (w : World) (_hi : w.cell? ⟨0, 3, none⟩ = some (.int .u32 2)) (_hr : w.cell? ⟨1, 3, none⟩ = some (.int .u32 0)) :
    Calls Tryd.prog 3 #[.int .i64 2, .int .i64 3] w (LawEnd w) := by
  go_enter Tryd.func3, Tryd.ntmps3
  go_wp2
  go_returns
  exact ⟨by simp, by (repeat' (first | (with_reducible exact Below.refl _ _) | (with_reducible assumption) | (with_reducible refine below_drewN ?_ _) | (with_reducible refine Below.alloc ?_ ?_ _) | (with_reducible refine Below.drew ?_) | (with_reducible refine Below.setCell ?_ ?_ _) | go_size))⟩
theorem verHas_3_3 (w : World) (_hi : w.cell? ⟨0, 3, none⟩ = some (.int .u32 2)) (_hr : w.cell? ⟨1, 3, none⟩ = some (.int .u32 0)) :
    Calls Tryd.prog 3 #[.int .i64 3, .int .i64 3] w (LawEnd w) := by
  go_enter Tryd.func3, Tryd.ntmps3
  go_wp2
  go_returns
  exact ⟨by simp, by (repeat' (first | (with_reducible exact Below.refl _ _) | (with_reducible assumption) | (with_reducible refine below_drewN ?_ _) | (with_reducible refine Below.alloc ?_ ?_ _) | (with_reducible refine Below.drew ?_) | (with_reducible refine Below.setCell ?_ ?_ _) | go_size))⟩
theorem verHas_4_3 (w : World) (_hi : w.cell? ⟨0, 3, none⟩ = some (.int .u32 2)) (_hr : w.cell? ⟨1, 3, none⟩ = some (.int .u32 0)) :
    Calls Tryd.prog 3 #[.int .i64 4, .int .i64 3] w (LawEnd w) := by
  go_enter Tryd.func3, Tryd.ntmps3
  go_wp2
  go_returns
  exact ⟨by simp, by (repeat' (first | (with_reducible exact Below.refl _ _) | (with_reducible assumption) | (with_reducible refine below_drewN ?_ _) | (with_reducible refine Below.alloc ?_ ?_ _) | (with_reducible refine Below.drew ?_) | (with_reducible refine Below.setCell ?_ ?_ _) | go_size))⟩
theorem verHas_5_3 (w : World) (_hi : w.cell? ⟨0, 3, none⟩ = some (.int .u32 2)) (_hr : w.cell? ⟨1, 3, none⟩ = some (.int .u32 0)) :
    Calls Tryd.prog 3 #[.int .i64 5, .int .i64 3] w (LawEnd w) := by
  go_enter Tryd.func3, Tryd.ntmps3
  go_wp2
  go_returns
  exact ⟨by simp, by (repeat' (first | (with_reducible exact Below.refl _ _) | (with_reducible assumption) | (with_reducible refine below_drewN ?_ _) | (with_reducible refine Below.alloc ?_ ?_ _) | (with_reducible refine Below.drew ?_) | (with_reducible refine Below.setCell ?_ ?_ _) | go_size))⟩
theorem verHas_0_4 (w : World) (_hi : w.cell? ⟨0, 4, none⟩ = some (.int .u32 0)) (_hr : w.cell? ⟨1, 4, none⟩ = some (.int .u32 2)) :
    Calls Tryd.prog 3 #[.int .i64 0, .int .i64 4] w (LawEnd w) := by
  go_enter Tryd.func3, Tryd.ntmps3
  go_wp2
  go_returns
  exact ⟨by simp, by (repeat' (first | (with_reducible exact Below.refl _ _) | (with_reducible assumption) | (with_reducible refine below_drewN ?_ _) | (with_reducible refine Below.alloc ?_ ?_ _) | (with_reducible refine Below.drew ?_) | (with_reducible refine Below.setCell ?_ ?_ _) | go_size))⟩
theorem verHas_1_4 (w : World) (_hi : w.cell? ⟨0, 4, none⟩ = some (.int .u32 0)) (_hr : w.cell? ⟨1, 4, none⟩ = some (.int .u32 2)) :
    Calls Tryd.prog 3 #[.int .i64 1, .int .i64 4] w (LawEnd w) := by
  go_enter Tryd.func3, Tryd.ntmps3
  go_wp2
  go_returns
  exact ⟨by simp, by (repeat' (first | (with_reducible exact Below.refl _ _) | (with_reducible assumption) | (with_reducible refine below_drewN ?_ _) | (with_reducible refine Below.alloc ?_ ?_ _) | (with_reducible refine Below.drew ?_) | (with_reducible refine Below.setCell ?_ ?_ _) | go_size))⟩
theorem verHas_2_4 (w : World) (_hi : w.cell? ⟨0, 4, none⟩ = some (.int .u32 0)) (_hr : w.cell? ⟨1, 4, none⟩ = some (.int .u32 2)) :
    Calls Tryd.prog 3 #[.int .i64 2, .int .i64 4] w (LawEnd w) := by
  go_enter Tryd.func3, Tryd.ntmps3
  go_wp2
  go_returns
  exact ⟨by simp, by (repeat' (first | (with_reducible exact Below.refl _ _) | (with_reducible assumption) | (with_reducible refine below_drewN ?_ _) | (with_reducible refine Below.alloc ?_ ?_ _) | (with_reducible refine Below.drew ?_) | (with_reducible refine Below.setCell ?_ ?_ _) | go_size))⟩
theorem verHas_3_4 (w : World) (_hi : w.cell? ⟨0, 4, none⟩ = some (.int .u32 0)) (_hr : w.cell? ⟨1, 4, none⟩ = some (.int .u32 2)) :
    Calls Tryd.prog 3 #[.int .i64 3, .int .i64 4] w (LawEnd w) := by
  go_enter Tryd.func3, Tryd.ntmps3
  go_wp2
  go_returns
  exact ⟨by simp, by (repeat' (first | (with_reducible exact Below.refl _ _) | (with_reducible assumption) | (with_reducible refine below_drewN ?_ _) | (with_reducible refine Below.alloc ?_ ?_ _) | (with_reducible refine Below.drew ?_) | (with_reducible refine Below.setCell ?_ ?_ _) | go_size))⟩
theorem verHas_4_4 (w : World) (_hi : w.cell? ⟨0, 4, none⟩ = some (.int .u32 0)) (_hr : w.cell? ⟨1, 4, none⟩ = some (.int .u32 2)) :
    Calls Tryd.prog 3 #[.int .i64 4, .int .i64 4] w (LawEnd w) := by
  go_enter Tryd.func3, Tryd.ntmps3
  go_wp2
  go_returns
  exact ⟨by simp, by (repeat' (first | (with_reducible exact Below.refl _ _) | (with_reducible assumption) | (with_reducible refine below_drewN ?_ _) | (with_reducible refine Below.alloc ?_ ?_ _) | (with_reducible refine Below.drew ?_) | (with_reducible refine Below.setCell ?_ ?_ _) | go_size))⟩
theorem verHas_5_4 (w : World) (_hi : w.cell? ⟨0, 4, none⟩ = some (.int .u32 0)) (_hr : w.cell? ⟨1, 4, none⟩ = some (.int .u32 2)) :
    Calls Tryd.prog 3 #[.int .i64 5, .int .i64 4] w (LawEnd w) := by
  go_enter Tryd.func3, Tryd.ntmps3
  go_wp2
  go_returns
  exact ⟨by simp, by (repeat' (first | (with_reducible exact Below.refl _ _) | (with_reducible assumption) | (with_reducible refine below_drewN ?_ _) | (with_reducible refine Below.alloc ?_ ?_ _) | (with_reducible refine Below.drew ?_) | (with_reducible refine Below.setCell ?_ ?_ _) | go_size))⟩
theorem verHas_0_5 (w : World) (_hi : w.cell? ⟨0, 5, none⟩ = some (.int .u32 3)) (_hr : w.cell? ⟨1, 5, none⟩ = some (.int .u32 0)) :
    Calls Tryd.prog 3 #[.int .i64 0, .int .i64 5] w (LawEnd w) := by
  go_enter Tryd.func3, Tryd.ntmps3
  go_wp2
  go_returns
  exact ⟨by simp, by (repeat' (first | (with_reducible exact Below.refl _ _) | (with_reducible assumption) | (with_reducible refine below_drewN ?_ _) | (with_reducible refine Below.alloc ?_ ?_ _) | (with_reducible refine Below.drew ?_) | (with_reducible refine Below.setCell ?_ ?_ _) | go_size))⟩
theorem verHas_1_5 (w : World) (_hi : w.cell? ⟨0, 5, none⟩ = some (.int .u32 3)) (_hr : w.cell? ⟨1, 5, none⟩ = some (.int .u32 0)) :
    Calls Tryd.prog 3 #[.int .i64 1, .int .i64 5] w (LawEnd w) := by
  go_enter Tryd.func3, Tryd.ntmps3
  go_wp2
  go_returns
  exact ⟨by simp, by (repeat' (first | (with_reducible exact Below.refl _ _) | (with_reducible assumption) | (with_reducible refine below_drewN ?_ _) | (with_reducible refine Below.alloc ?_ ?_ _) | (with_reducible refine Below.drew ?_) | (with_reducible refine Below.setCell ?_ ?_ _) | go_size))⟩
theorem verHas_2_5 (w : World) (_hi : w.cell? ⟨0, 5, none⟩ = some (.int .u32 3)) (_hr : w.cell? ⟨1, 5, none⟩ = some (.int .u32 0)) :
    Calls Tryd.prog 3 #[.int .i64 2, .int .i64 5] w (LawEnd w) := by
  go_enter Tryd.func3, Tryd.ntmps3
  go_wp2
  go_returns
  exact ⟨by simp, by (repeat' (first | (with_reducible exact Below.refl _ _) | (with_reducible assumption) | (with_reducible refine below_drewN ?_ _) | (with_reducible refine Below.alloc ?_ ?_ _) | (with_reducible refine Below.drew ?_) | (with_reducible refine Below.setCell ?_ ?_ _) | go_size))⟩
theorem verHas_3_5 (w : World) (_hi : w.cell? ⟨0, 5, none⟩ = some (.int .u32 3)) (_hr : w.cell? ⟨1, 5, none⟩ = some (.int .u32 0)) :
    Calls Tryd.prog 3 #[.int .i64 3, .int .i64 5] w (LawEnd w) := by
  go_enter Tryd.func3, Tryd.ntmps3
  go_wp2
  go_returns
  exact ⟨by simp, by (repeat' (first | (with_reducible exact Below.refl _ _) | (with_reducible assumption) | (with_reducible refine below_drewN ?_ _) | (with_reducible refine Below.alloc ?_ ?_ _) | (with_reducible refine Below.drew ?_) | (with_reducible refine Below.setCell ?_ ?_ _) | go_size))⟩
theorem verHas_4_5 (w : World) (_hi : w.cell? ⟨0, 5, none⟩ = some (.int .u32 3)) (_hr : w.cell? ⟨1, 5, none⟩ = some (.int .u32 0)) :
    Calls Tryd.prog 3 #[.int .i64 4, .int .i64 5] w (LawEnd w) := by
  go_enter Tryd.func3, Tryd.ntmps3
  go_wp2
  go_returns
  exact ⟨by simp, by (repeat' (first | (with_reducible exact Below.refl _ _) | (with_reducible assumption) | (with_reducible refine below_drewN ?_ _) | (with_reducible refine Below.alloc ?_ ?_ _) | (with_reducible refine Below.drew ?_) | (with_reducible refine Below.setCell ?_ ?_ _) | go_size))⟩
theorem verHas_5_5 (w : World) (_hi : w.cell? ⟨0, 5, none⟩ = some (.int .u32 3)) (_hr : w.cell? ⟨1, 5, none⟩ = some (.int .u32 0)) :
    Calls Tryd.prog 3 #[.int .i64 5, .int .i64 5] w (LawEnd w) := by
  go_enter Tryd.func3, Tryd.ntmps3
  go_wp2
  go_returns
  exact ⟨by simp, by (repeat' (first | (with_reducible exact Below.refl _ _) | (with_reducible assumption) | (with_reducible refine below_drewN ?_ _) | (with_reducible refine Below.alloc ?_ ?_ _) | (with_reducible refine Below.drew ?_) | (with_reducible refine Below.setCell ?_ ?_ _) | go_size))⟩
theorem verHas_0_6 (w : World) (_hi : w.cell? ⟨0, 6, none⟩ = some (.int .u32 4)) (_hr : w.cell? ⟨1, 6, none⟩ = some (.int .u32 0)) :
    Calls Tryd.prog 3 #[.int .i64 0, .int .i64 6] w (LawEnd w) := by
  go_enter Tryd.func3, Tryd.ntmps3
  go_wp2
  go_returns
  exact ⟨by simp, by (repeat' (first | (with_reducible exact Below.refl _ _) | (with_reducible assumption) | (with_reducible refine below_drewN ?_ _) | (with_reducible refine Below.alloc ?_ ?_ _) | (with_reducible refine Below.drew ?_) | (with_reducible refine Below.setCell ?_ ?_ _) | go_size))⟩
theorem verHas_1_6 (w : World) (_hi : w.cell? ⟨0, 6, none⟩ = some (.int .u32 4)) (_hr : w.cell? ⟨1, 6, none⟩ = some (.int .u32 0)) :
    Calls Tryd.prog 3 #[.int .i64 1, .int .i64 6] w (LawEnd w) := by
  go_enter Tryd.func3, Tryd.ntmps3
  go_wp2
  go_returns
  exact ⟨by simp, by (repeat' (first | (with_reducible exact Below.refl _ _) | (with_reducible assumption) | (with_reducible refine below_drewN ?_ _) | (with_reducible refine Below.alloc ?_ ?_ _) | (with_reducible refine Below.drew ?_) | (with_reducible refine Below.setCell ?_ ?_ _) | go_size))⟩
theorem verHas_2_6 (w : World) (_hi : w.cell? ⟨0, 6, none⟩ = some (.int .u32 4)) (_hr : w.cell? ⟨1, 6, none⟩ = some (.int .u32 0)) :
    Calls Tryd.prog 3 #[.int .i64 2, .int .i64 6] w (LawEnd w) := by
  go_enter Tryd.func3, Tryd.ntmps3
  go_wp2
  go_returns
  exact ⟨by simp, by (repeat' (first | (with_reducible exact Below.refl _ _) | (with_reducible assumption) | (with_reducible refine below_drewN ?_ _) | (with_reducible refine Below.alloc ?_ ?_ _) | (with_reducible refine Below.drew ?_) | (with_reducible refine Below.setCell ?_ ?_ _) | go_size))⟩
theorem verHas_3_6 (w : World) (_hi : w.cell? ⟨0, 6, none⟩ = some (.int .u32 4)) (_hr : w.cell? ⟨1, 6, none⟩ = some (.int .u32 0)) :
    Calls Tryd.prog 3 #[.int .i64 3, .int .i64 6] w (LawEnd w) := by
  go_enter Tryd.func3, Tryd.ntmps3
  go_wp2
  go_returns
  exact ⟨by simp, by (repeat' (first | (with_reducible exact Below.refl _ _) | (with_reducible assumption) | (with_reducible refine below_drewN ?_ _) | (with_reducible refine Below.alloc ?_ ?_ _) | (with_reducible refine Below.drew ?_) | (with_reducible refine Below.setCell ?_ ?_ _) | go_size))⟩
theorem verHas_4_6 (w : World) (_hi : w.cell? ⟨0, 6, none⟩ = some (.int .u32 4)) (_hr : w.cell? ⟨1, 6, none⟩ = some (.int .u32 0)) :
    Calls Tryd.prog 3 #[.int .i64 4, .int .i64 6] w (LawEnd w) := by
  go_enter Tryd.func3, Tryd.ntmps3
  go_wp2
  go_returns
  exact ⟨by simp, by (repeat' (first | (with_reducible exact Below.refl _ _) | (with_reducible assumption) | (with_reducible refine below_drewN ?_ _) | (with_reducible refine Below.alloc ?_ ?_ _) | (with_reducible refine Below.drew ?_) | (with_reducible refine Below.setCell ?_ ?_ _) | go_size))⟩
theorem verHas_5_6 (w : World) (_hi : w.cell? ⟨0, 6, none⟩ = some (.int .u32 4)) (_hr : w.cell? ⟨1, 6, none⟩ = some (.int .u32 0)) :
    Calls Tryd.prog 3 #[.int .i64 5, .int .i64 6] w (LawEnd w) := by
  go_enter Tryd.func3, Tryd.ntmps3
  go_wp2
  go_returns
  exact ⟨by simp, by (repeat' (first | (with_reducible exact Below.refl _ _) | (with_reducible assumption) | (with_reducible refine below_drewN ?_ _) | (with_reducible refine Below.alloc ?_ ?_ _) | (with_reducible refine Below.drew ?_) | (with_reducible refine Below.setCell ?_ ?_ _) | go_size))⟩
theorem verHas_0_7 (w : World) (_hi : w.cell? ⟨0, 7, none⟩ = some (.int .u32 5)) (_hr : w.cell? ⟨1, 7, none⟩ = some (.int .u32 0)) :
    Calls Tryd.prog 3 #[.int .i64 0, .int .i64 7] w (LawEnd w) := by
  go_enter Tryd.func3, Tryd.ntmps3
  go_wp2
  go_returns
  exact ⟨by simp, by (repeat' (first | (with_reducible exact Below.refl _ _) | (with_reducible assumption) | (with_reducible refine below_drewN ?_ _) | (with_reducible refine Below.alloc ?_ ?_ _) | (with_reducible refine Below.drew ?_) | (with_reducible refine Below.setCell ?_ ?_ _) | go_size))⟩
theorem verHas_1_7 (w : World) (_hi : w.cell? ⟨0, 7, none⟩ = some (.int .u32 5)) (_hr : w.cell? ⟨1, 7, none⟩ = some (.int .u32 0)) :
    Calls Tryd.prog 3 #[.int .i64 1, .int .i64 7] w (LawEnd w) := by
  go_enter Tryd.func3, Tryd.ntmps3
  go_wp2
  go_returns
  exact ⟨by simp, by (repeat' (first | (with_reducible exact Below.refl _ _) | (with_reducible assumption) | (with_reducible refine below_drewN ?_ _) | (with_reducible refine Below.alloc ?_ ?_ _) | (with_reducible refine Below.drew ?_) | (with_reducible refine Below.setCell ?_ ?_ _) | go_size))⟩
theorem verHas_2_7 (w : World) (_hi : w.cell? ⟨0, 7, none⟩ = some (.int .u32 5)) (_hr : w.cell? ⟨1, 7, none⟩ = some (.int .u32 0)) :
    Calls Tryd.prog 3 #[.int .i64 2, .int .i64 7] w (LawEnd w) := by
  go_enter Tryd.func3, Tryd.ntmps3
  go_wp2
  go_returns
  exact ⟨by simp, by (repeat' (first | (with_reducible exact Below.refl _ _) | (with_reducible assumption) | (with_reducible refine below_drewN ?_ _) | (with_reducible refine Below.alloc ?_ ?_ _) | (with_reducible refine Below.drew ?_) | (with_reducible refine Below.setCell ?_ ?_ _) | go_size))⟩
theorem verHas_3_7 (w : World) (_hi : w.cell? ⟨0, 7, none⟩ = some (.int .u32 5)) (_hr : w.cell? ⟨1, 7, none⟩ = some (.int .u32 0)) :
    Calls Tryd.prog 3 #[.int .i64 3, .int .i64 7] w (LawEnd w) := by
  go_enter Tryd.func3, Tryd.ntmps3
  go_wp2
  go_returns
  exact ⟨by simp, by (repeat' (first | (with_reducible exact Below.refl _ _) | (with_reducible assumption) | (with_reducible refine below_drewN ?_ _) | (with_reducible refine Below.alloc ?_ ?_ _) | (with_reducible refine Below.drew ?_) | (with_reducible refine Below.setCell ?_ ?_ _) | go_size))⟩
theorem verHas_4_7 (w : World) (_hi : w.cell? ⟨0, 7, none⟩ = some (.int .u32 5)) (_hr : w.cell? ⟨1, 7, none⟩ = some (.int .u32 0)) :
    Calls Tryd.prog 3 #[.int .i64 4, .int .i64 7] w (LawEnd w) := by
  go_enter Tryd.func3, Tryd.ntmps3
  go_wp2
  go_returns
  exact ⟨by simp, by (repeat' (first | (with_reducible exact Below.refl _ _) | (with_reducible assumption) | (with_reducible refine below_drewN ?_ _) | (with_reducible refine Below.alloc ?_ ?_ _) | (with_reducible refine Below.drew ?_) | (with_reducible refine Below.setCell ?_ ?_ _) | go_size))⟩
theorem verHas_5_7 (w : World) (_hi : w.cell? ⟨0, 7, none⟩ = some (.int .u32 5)) (_hr : w.cell? ⟨1, 7, none⟩ = some (.int .u32 0)) :
    Calls Tryd.prog 3 #[.int .i64 5, .int .i64 7] w (LawEnd w) := by
  go_enter Tryd.func3, Tryd.ntmps3
  go_wp2
  go_returns
  exact ⟨by simp, by (repeat' (first | (with_reducible exact Below.refl _ _) | (with_reducible assumption) | (with_reducible refine below_drewN ?_ _) | (with_reducible refine Below.alloc ?_ ?_ _) | (with_reducible refine Below.drew ?_) | (with_reducible refine Below.setCell ?_ ?_ _) | go_size))⟩

theorem verHas_out (v f : Int) (w : World) (h : v < 0 ∨ 5 < v ∨ f < 0 ∨ 7 < f) : Calls Tryd.prog 3 #[.int .i64 v, .int .i64 f] w (LawEnd w) := by
  by_cases h1 : v < 0
  · clear h
    go_enter Tryd.func3, Tryd.ntmps3
    go_wp2
    go_returns
    exact ⟨by simp, by (repeat' (first | (with_reducible exact Below.refl _ _) | (with_reducible assumption) | (with_reducible refine below_drewN ?_ _) | (with_reducible refine Below.alloc ?_ ?_ _) | (with_reducible refine Below.drew ?_) | (with_reducible refine Below.setCell ?_ ?_ _) | go_size))⟩
  by_cases h2 : 5 < v
  · clear h
    go_enter Tryd.func3, Tryd.ntmps3
    go_wp2
    go_returns
    exact ⟨by simp, by (repeat' (first | (with_reducible exact Below.refl _ _) | (with_reducible assumption) | (with_reducible refine below_drewN ?_ _) | (with_reducible refine Below.alloc ?_ ?_ _) | (with_reducible refine Below.drew ?_) | (with_reducible refine Below.setCell ?_ ?_ _) | go_size))⟩
  by_cases h3 : f < 0
  · clear h
    go_enter Tryd.func3, Tryd.ntmps3
    go_wp2
    go_returns
    exact ⟨by simp, by (repeat' (first | (with_reducible exact Below.refl _ _) | (with_reducible assumption) | (with_reducible refine below_drewN ?_ _) | (with_reducible refine Below.alloc ?_ ?_ _) | (with_reducible refine Below.drew ?_) | (with_reducible refine Below.setCell ?_ ?_ _) | go_size))⟩
  have h4 : 7 < f := by omega
  clear h
  go_enter Tryd.func3, Tryd.ntmps3
  go_wp2
  go_returns
  exact ⟨by simp, by (repeat' (first | (with_reducible exact Below.refl _ _) | (with_reducible assumption) | (with_reducible refine below_drewN ?_ _) | (with_reducible refine Below.alloc ?_ ?_ _) | (with_reducible refine Below.drew ?_) | (with_reducible refine Below.setCell ?_ ?_ _) | go_size))⟩

theorem Tryd.gI : Tryd.prog.globalNamed "loop.example/pub-g01454/pub/pkgbits.introduced" = some 0 := by kernel_rfl
theorem Tryd.gR : Tryd.prog.globalNamed "loop.example/pub-g01454/pub/pkgbits.removed" = some 1 := by kernel_rfl
theorem Tryd.gIT : (Tryd.prog.globals[0]?).map (·.type) = some 27 := by kernel_rfl
theorem Tryd.gRT : (Tryd.prog.globals[1]?).map (·.type) = some 27 := by kernel_rfl
theorem Tryd.cellsV8 : Tryd.prog.cellsOf 27 = 8 := by kernel_rfl
theorem Tryd.cellsV : Tryd.prog.cellsOf 24 = 1 := by kernel_rfl
theorem tab_i {W : World} (h : laidMetH Tryd.prog Rows.fnVersionHasRow.laid W) : Lib.TabIs Tryd.prog W "loop.example/pub-g01454/pub/pkgbits.introduced" .u32 [1, 0, 0, 2, 0, 3, 4, 5] :=
  Lib.tabIs_of_head (rest := [_]) Tryd.gI Tryd.gIT Tryd.underlying27 Tryd.underlying24 Tryd.cellsV Tryd.cellsV8 h
theorem laidMet_tail {P : Program} {n : String} {d : DataW Unit} {l : List (String × DataW Unit)} {W : World} (h : laidMet P ((n, d) :: l) W) : laidMet P l W := by
  obtain ⟨ps, ⟨g, t, cs, fuel, p, q, h1, h2, h3, h4, h5, rfl⟩, hn, hw⟩ := h
  exact ⟨q, h5, (List.nodup_append.1 hn).2.1, fun b off hm => hw b off (List.mem_append_right _ hm)⟩
theorem tab_r {W : World} (h : laidMetH Tryd.prog Rows.fnVersionHasRow.laid W) : Lib.TabIs Tryd.prog W "loop.example/pub-g01454/pub/pkgbits.removed" .u32 [0, 2, 2, 0, 2, 0, 0, 0] :=
  Lib.tabIs_of_head (rest := []) Tryd.gR Tryd.gRT Tryd.underlying27 Tryd.underlying24 Tryd.cellsV Tryd.cellsV8 (laidMet_tail h)

theorem fnVersionHas_any (v f : Int) (w : World) (_ : -9223372036854775808 ≤ v ∧ v < 9223372036854775808) (_ : -9223372036854775808 ≤ f ∧ f < 9223372036854775808) (hL : laidMetH Tryd.prog Rows.fnVersionHasRow.laid w) :
    Calls Tryd.prog 3 #[.int .i64 v, .int .i64 f] w (LawEnd w) := by
  by_cases h : v < 0 ∨ 5 < v ∨ f < 0 ∨ 7 < f
  · exact verHas_out v f w h
  have hi := fun (i : Nat) hi => (tab_i hL).cell Tryd.gI i hi
  have hr := fun (i : Nat) hi => (tab_r hL).cell Tryd.gR i hi
  by_cases f0 : f = 0
  · subst f0
    by_cases v0 : v = 0
    · subst v0
      exact verHas_0_0 w (hi 0 (by decide)) (hr 0 (by decide))
    by_cases v1 : v = 1
    · subst v1
      exact verHas_1_0 w (hi 0 (by decide)) (hr 0 (by decide))
    by_cases v2 : v = 2
    · subst v2
      exact verHas_2_0 w (hi 0 (by decide)) (hr 0 (by decide))
    by_cases v3 : v = 3
    · subst v3
      exact verHas_3_0 w (hi 0 (by decide)) (hr 0 (by decide))
    by_cases v4 : v = 4
    · subst v4
      exact verHas_4_0 w (hi 0 (by decide)) (hr 0 (by decide))
    by_cases v5 : v = 5
    · subst v5
      exact verHas_5_0 w (hi 0 (by decide)) (hr 0 (by decide))
    exact absurd (by omega) h
  by_cases f1 : f = 1
  · subst f1
    by_cases v0 : v = 0
    · subst v0
      exact verHas_0_1 w (hi 1 (by decide)) (hr 1 (by decide))
    by_cases v1 : v = 1
    · subst v1
      exact verHas_1_1 w (hi 1 (by decide)) (hr 1 (by decide))
    by_cases v2 : v = 2
    · subst v2
      exact verHas_2_1 w (hi 1 (by decide)) (hr 1 (by decide))
    by_cases v3 : v = 3
    · subst v3
      exact verHas_3_1 w (hi 1 (by decide)) (hr 1 (by decide))
    by_cases v4 : v = 4
    · subst v4
      exact verHas_4_1 w (hi 1 (by decide)) (hr 1 (by decide))
    by_cases v5 : v = 5
    · subst v5
      exact verHas_5_1 w (hi 1 (by decide)) (hr 1 (by decide))
    exact absurd (by omega) h
  by_cases f2 : f = 2
  · subst f2
    by_cases v0 : v = 0
    · subst v0
      exact verHas_0_2 w (hi 2 (by decide)) (hr 2 (by decide))
    by_cases v1 : v = 1
    · subst v1
      exact verHas_1_2 w (hi 2 (by decide)) (hr 2 (by decide))
    by_cases v2 : v = 2
    · subst v2
      exact verHas_2_2 w (hi 2 (by decide)) (hr 2 (by decide))
    by_cases v3 : v = 3
    · subst v3
      exact verHas_3_2 w (hi 2 (by decide)) (hr 2 (by decide))
    by_cases v4 : v = 4
    · subst v4
      exact verHas_4_2 w (hi 2 (by decide)) (hr 2 (by decide))
    by_cases v5 : v = 5
    · subst v5
      exact verHas_5_2 w (hi 2 (by decide)) (hr 2 (by decide))
    exact absurd (by omega) h
  by_cases f3 : f = 3
  · subst f3
    by_cases v0 : v = 0
    · subst v0
      exact verHas_0_3 w (hi 3 (by decide)) (hr 3 (by decide))
    by_cases v1 : v = 1
    · subst v1
      exact verHas_1_3 w (hi 3 (by decide)) (hr 3 (by decide))
    by_cases v2 : v = 2
    · subst v2
      exact verHas_2_3 w (hi 3 (by decide)) (hr 3 (by decide))
    by_cases v3 : v = 3
    · subst v3
      exact verHas_3_3 w (hi 3 (by decide)) (hr 3 (by decide))
    by_cases v4 : v = 4
    · subst v4
      exact verHas_4_3 w (hi 3 (by decide)) (hr 3 (by decide))
    by_cases v5 : v = 5
    · subst v5
      exact verHas_5_3 w (hi 3 (by decide)) (hr 3 (by decide))
    exact absurd (by omega) h
  by_cases f4 : f = 4
  · subst f4
    by_cases v0 : v = 0
    · subst v0
      exact verHas_0_4 w (hi 4 (by decide)) (hr 4 (by decide))
    by_cases v1 : v = 1
    · subst v1
      exact verHas_1_4 w (hi 4 (by decide)) (hr 4 (by decide))
    by_cases v2 : v = 2
    · subst v2
      exact verHas_2_4 w (hi 4 (by decide)) (hr 4 (by decide))
    by_cases v3 : v = 3
    · subst v3
      exact verHas_3_4 w (hi 4 (by decide)) (hr 4 (by decide))
    by_cases v4 : v = 4
    · subst v4
      exact verHas_4_4 w (hi 4 (by decide)) (hr 4 (by decide))
    by_cases v5 : v = 5
    · subst v5
      exact verHas_5_4 w (hi 4 (by decide)) (hr 4 (by decide))
    exact absurd (by omega) h
  by_cases f5 : f = 5
  · subst f5
    by_cases v0 : v = 0
    · subst v0
      exact verHas_0_5 w (hi 5 (by decide)) (hr 5 (by decide))
    by_cases v1 : v = 1
    · subst v1
      exact verHas_1_5 w (hi 5 (by decide)) (hr 5 (by decide))
    by_cases v2 : v = 2
    · subst v2
      exact verHas_2_5 w (hi 5 (by decide)) (hr 5 (by decide))
    by_cases v3 : v = 3
    · subst v3
      exact verHas_3_5 w (hi 5 (by decide)) (hr 5 (by decide))
    by_cases v4 : v = 4
    · subst v4
      exact verHas_4_5 w (hi 5 (by decide)) (hr 5 (by decide))
    by_cases v5 : v = 5
    · subst v5
      exact verHas_5_5 w (hi 5 (by decide)) (hr 5 (by decide))
    exact absurd (by omega) h
  by_cases f6 : f = 6
  · subst f6
    by_cases v0 : v = 0
    · subst v0
      exact verHas_0_6 w (hi 6 (by decide)) (hr 6 (by decide))
    by_cases v1 : v = 1
    · subst v1
      exact verHas_1_6 w (hi 6 (by decide)) (hr 6 (by decide))
    by_cases v2 : v = 2
    · subst v2
      exact verHas_2_6 w (hi 6 (by decide)) (hr 6 (by decide))
    by_cases v3 : v = 3
    · subst v3
      exact verHas_3_6 w (hi 6 (by decide)) (hr 6 (by decide))
    by_cases v4 : v = 4
    · subst v4
      exact verHas_4_6 w (hi 6 (by decide)) (hr 6 (by decide))
    by_cases v5 : v = 5
    · subst v5
      exact verHas_5_6 w (hi 6 (by decide)) (hr 6 (by decide))
    exact absurd (by omega) h
  by_cases f7 : f = 7
  · subst f7
    by_cases v0 : v = 0
    · subst v0
      exact verHas_0_7 w (hi 7 (by decide)) (hr 7 (by decide))
    by_cases v1 : v = 1
    · subst v1
      exact verHas_1_7 w (hi 7 (by decide)) (hr 7 (by decide))
    by_cases v2 : v = 2
    · subst v2
      exact verHas_2_7 w (hi 7 (by decide)) (hr 7 (by decide))
    by_cases v3 : v = 3
    · subst v3
      exact verHas_3_7 w (hi 7 (by decide)) (hr 7 (by decide))
    by_cases v4 : v = 4
    · subst v4
      exact verHas_4_7 w (hi 7 (by decide)) (hr 7 (by decide))
    by_cases v5 : v = 5
    · subst v5
      exact verHas_5_7 w (hi 7 (by decide)) (hr 7 (by decide))
    exact absurd (by omega) h
  exact absurd (by omega) h
end Go.Proofs.YtnnhdoocklaeoaaDoor
