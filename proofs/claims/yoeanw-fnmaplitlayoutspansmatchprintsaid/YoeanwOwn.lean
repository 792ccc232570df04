/-
  SMALL LAWS ON WORLDS FOR THE SECOND LAW's WALK: a row that is filled cell by cell.
-/
import Derived.Test.YoeanwPlain
import Derived.Deep.OwnRows
namespace Go.Proofs.Yoeanw
open Go.RowKit

theorem lt_of_cell {w : World} {a : Addr} {v : Value} (h : w.cell? a = some v) : a.block < w.heap.size := by
  rcases Nat.lt_or_ge a.block w.heap.size with h1 | h1
  · exact h1
  · have e : w.heap[a.block]? = none := by simp; omega
    simp [World.cell?, e] at h

theorem row_start (w : World) (n : Nat) (S : Nat → ByteArray) :
    (w.alloc (.cells (madeCells #[.string ByteArray.empty] n) 9)).rowIs w.heap.size 9 n (fun j => .string (if j < 0 then S j else ByteArray.empty)) :=
  (World.rowIs_made w (.string ByteArray.empty) n 9).congr (fun i _ => by rw [if_neg (by omega)])

theorem row_old {w : World} {B n k : Nat} {S : Nat → ByteArray} (h : w.rowIs B 9 n (fun j => .string (if j < k then S j else ByteArray.empty))) (hk : k < n) : w.cell? ⟨B, k, none⟩ = some (.string ByteArray.empty) := by
  have := h.cell hk
  rwa [if_neg (by omega)] at this

theorem row_step {w : World} {B n k : Nat} {S : Nat → ByteArray} (h : w.rowIs B 9 n (fun j => .string (if j < k then S j else ByteArray.empty))) :
    (w.setCell ⟨B, k, none⟩ (.string (S k))).rowIs B 9 n (fun j => .string (if j < k + 1 then S j else ByteArray.empty)) :=
  (h.set k (.string (S k))).congr (fun i _ => by
    by_cases e : i = k
    · subst e; simp
    · rw [if_neg e]
      by_cases h1 : i < k
      · rw [if_pos h1, if_pos (by omega)]
      · rw [if_neg h1, if_neg (by omega)])

theorem row_done {w : World} {B n : Nat} {S : Nat → ByteArray} (h : w.rowIs B 9 n (fun j => .string (if j < n then S j else ByteArray.empty))) : w.rowIs B 9 n (fun j => .string (S j)) :=
  h.congr (fun i hi => by rw [if_pos hi])

theorem size_setCell (w : World) (a : Addr) (v : Value) : (w.setCell a v).heap.size = w.heap.size := by simp [World.setCell]

end Go.Proofs.Yoeanw
