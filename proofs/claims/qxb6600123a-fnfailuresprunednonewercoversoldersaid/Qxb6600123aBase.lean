/-
  Seat b6600123a: shared facts: the types' rows, a slice that came in, rows of the call's own.
-/
import Derived.Test.Qxb6600123aRows
import Derived.WalkKit
import Derived.WalkLawsBesides
import Derived.Lib.SliceRun
import Derived.Deep.OwnRows
namespace Go.Proofs.Qxb6600123a
open Go.RowKit Go.Deep

theorem info3 : (Try.prog.info? 3).map (fun i => (i.zero, i.size, i.bytes)) = some (some (.int .i64 0), 1, 8) := by kernel_rfl
theorem info4 : (Try.prog.info? 4).map (fun i => (i.zero, i.size, i.bytes)) = some (some (.bool false), 1, 1) := by kernel_rfl
theorem info9 : (Try.prog.info? 9).map (fun i => (i.zero, i.size, i.bytes)) = some (some (.string ByteArray.empty), 1, 16) := by kernel_rfl
theorem info41 : (Try.prog.info? 41).map (fun i => (i.zero, i.size, i.bytes)) = some (some (.int .u64 0), 1, 8) := by kernel_rfl
theorem info58 : (Try.prog.info? 58).map (fun i => (i.zero, i.size, i.bytes)) = some (some (.int .u64 0), 1, 8) := by kernel_rfl

/-- A slice of one-cell elements in a block below B: the first n cells hold V 0, V 1 .. -/
structure In (B : Nat) (w : World) (a : Option Addr) (n c : Nat) (V : Nat → Value) : Prop where
  le : n ≤ c
  nil : a = none → n = 0 ∧ c = 0
  cell : ∀ i, i < n → ∃ b off, a = some ⟨b, off, none⟩ ∧ b < B ∧ w.cell? ⟨b, off + i, none⟩ = some (V i)

/-- Where it has an element it has one address. -/
theorem In.addr {B : Nat} {w : World} {a : Option Addr} {n c : Nat} {V : Nat → Value} (h : In B w a n c V) (hn : 0 < n) :
    ∃ b off, a = some ⟨b, off, none⟩ ∧ b < B ∧ ∀ i, i < n → w.cell? ⟨b, off + i, none⟩ = some (V i) := by
  obtain ⟨b, off, rfl, hb, _⟩ := h.cell 0 hn
  refine ⟨b, off, rfl, hb, fun i hi => ?_⟩
  obtain ⟨b', off', e, _, hc⟩ := h.cell i hi
  simp only [Option.some.injEq, Addr.mk.injEq, and_true] at e
  obtain ⟨rfl, rfl⟩ := e
  exact hc

/-- It reads the same in a later world. -/
theorem In.later {B : Nat} {w w' : World} {a : Option Addr} {n c : Nat} {V : Nat → Value} (h : In B w a n c V) (hb : Below B w w') : In B w' a n c V :=
  ⟨h.le, h.nil, fun i hi => by
    obtain ⟨b, off, e, hlt, hc⟩ := h.cell i hi
    exact ⟨b, off, e, hlt, (hb.cell (p := ⟨b, off + i, none⟩) hlt).trans hc⟩⟩

theorem In.lift {B B' : Nat} {w : World} {a : Option Addr} {n c : Nat} {V : Nat → Value} (h : In B w a n c V) (hB : B ≤ B') : In B' w a n c V :=
  ⟨h.le, h.nil, fun i hi => by
    obtain ⟨b, off, e, hlt, hc⟩ := h.cell i hi
    exact ⟨b, off, e, by omega, hc⟩⟩

theorem In.next {w w' : World} {a : Option Addr} {n c : Nat} {V : Nat → Value} (h : In w.heap.size w a n c V) (hb : Below w.heap.size w w') : In w'.heap.size w' a n c V :=
  (h.later hb).lift hb.size

theorem In.congr {B : Nat} {w : World} {a : Option Addr} {n c : Nat} {V V' : Nat → Value} (h : In B w a n c V) (e : ∀ i, i < n → V i = V' i) : In B w a n c V' :=
  ⟨h.le, h.nil, fun i hi => by rw [← e i hi]; exact h.cell i hi⟩

/-- A row of the call's own, from its head on, is such a slice. -/
theorem In.of_row {w : World} {g t m : Nat} {f : Nat → Value} (h : w.rowIs g t m f) (n c : Nat) (hn : n ≤ m) (hc : n ≤ c) : In w.heap.size w (some ⟨g, 0, none⟩) n c f :=
  ⟨hc, (fun e => nomatch e), fun i hi => ⟨g, 0, rfl, h.lt, by rw [Nat.zero_add]; exact h.cell (by omega)⟩⟩

/-- A row stays what it is while nothing below B turns. -/
theorem row_later {B : Nat} {w w' : World} {g t m : Nat} {f : Nat → Value} (h : w.rowIs g t m f) (hb : Below B w w') (hg : g < B) : w'.rowIs g t m f := h.of_block (hb.block g hg)

theorem row_grown {w w' : World} {row : Option Nat} {g t m : Nat} {f : Nat → Value} (h : w.rowIs g t m f) (hb : w.grownBy w' row) (hg : some g ≠ row) : w'.rowIs g t m f := h.of_block (hb.block g h.lt hg)

end Go.Proofs.Qxb6600123a
