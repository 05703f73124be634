/-
  THE PRINTER IN MEMORY: what is known of its block, of the bytes that it has gathered, and what a step on it leaves alone. No function of the program is walked here.
-/
import Derived.Test.YoedmwDoorRows
import Derived.WalkKit
import Derived.ProofKit
import Derived.Maps.AppendAt
import Derived.Laws.CopyOwn
import Derived.Deep.QuietTactic
import Derived.BigQuiet
namespace Go.Proofs.YoedmwDoor
open Go.RowKit

/-- Bytes as cells. -/
def vals (bs : List UInt8) : List Value := bs.map fun b => Value.int .u8 (b.toNat : Int)
theorem vals_length (bs : List UInt8) : (vals bs).length = bs.length := by simp [vals]
theorem vals_append (a b : List UInt8) : vals (a ++ b) = vals a ++ vals b := by simp [vals]
theorem vals_one (bs : List UInt8) : ∀ v ∈ vals bs, v.oneCell' = true := by
  intro v hv
  simp only [vals, List.mem_map] at hv
  obtain ⟨b, _, rfl⟩ := hv
  rfl
theorem vals_get (bs : List UInt8) (j : Nat) (h : j < bs.length) : (vals bs)[j]? = some (.int .u8 (bs[j].toNat : Int)) := by
  simp [vals, List.getElem?_eq_getElem h]

/-- The printer's flags and width. -/
structure Fl where
  wp : Bool
  mi : Bool
  sh : Bool
  ze : Bool
  wid : Int

/-- The printer's block B: the gathered slice bv, the flags F; the other flags are off, the precision 0; the integer buffer's 68 cells are there; nothing is frozen. The variable MaxStringLen holds what it was laid with. -/
structure Pr (w : World) (B : Nat) (bv : Value) (F : Fl) : Prop where
  lo : 2 ≤ B
  mx : w.cell? ⟨0, 0, none⟩ = some (.int .i64 2147483647)
  c0 : w.cell? ⟨B, 0, none⟩ = some bv
  c2 : w.cell? ⟨B, 2, none⟩ = some (.pointer (some ⟨B, 0, none⟩))
  c3 : w.cell? ⟨B, 3, none⟩ = some (.bool F.wp)
  c4 : w.cell? ⟨B, 4, none⟩ = some (.bool false)
  c5 : w.cell? ⟨B, 5, none⟩ = some (.bool F.mi)
  c6 : w.cell? ⟨B, 6, none⟩ = some (.bool false)
  c7 : w.cell? ⟨B, 7, none⟩ = some (.bool F.sh)
  c8 : w.cell? ⟨B, 8, none⟩ = some (.bool false)
  c9 : w.cell? ⟨B, 9, none⟩ = some (.bool F.ze)
  c15 : w.cell? ⟨B, 15, none⟩ = some (.int .i64 F.wid)
  c16 : w.cell? ⟨B, 16, none⟩ = some (.int .i64 0)
  ib : ∀ j, j < 68 → (w.cell? ⟨B, 17 + j, none⟩).isSome = true
  fr : ∀ j, w.frozen? ⟨B, j, none⟩ = false

theorem Pr.lt {w : World} {B : Nat} {bv : Value} {F : Fl} (h : Pr w B bv F) : B < w.heap.size := World.block_lt_of_cell? w ⟨B, 0, none⟩ h.c0

/-- The printer's block, and the variable's, read as they did. -/
theorem Pr.kept {w w' : World} {B : Nat} {bv : Value} {F : Fl} (h : Pr w B bv F) (hb : ∀ j, w'.cell? ⟨B, j, none⟩ = w.cell? ⟨B, j, none⟩) (hf : ∀ j, w'.frozen? ⟨B, j, none⟩ = w.frozen? ⟨B, j, none⟩)
    (h0 : w'.cell? ⟨0, 0, none⟩ = w.cell? ⟨0, 0, none⟩) : Pr w' B bv F :=
  ⟨h.lo, h0.trans h.mx, (hb _).trans h.c0, (hb _).trans h.c2, (hb _).trans h.c3, (hb _).trans h.c4, (hb _).trans h.c5, (hb _).trans h.c6, (hb _).trans h.c7, (hb _).trans h.c8, (hb _).trans h.c9, (hb _).trans h.c15, (hb _).trans h.c16,
    fun j hj => by rw [hb]; exact h.ib j hj, fun j => (hf j).trans (h.fr j)⟩

theorem Pr.block {w w' : World} {B : Nat} {bv : Value} {F : Fl} (h : Pr w B bv F) (hb : w'.heap[B]? = w.heap[B]?) (h0 : w'.heap[0]? = w.heap[0]?) : Pr w' B bv F :=
  h.kept (fun j => World.cell?_of_block (a := ⟨B, j, none⟩) hb) (fun j => World.frozen?_of_block (a := ⟨B, j, none⟩) hb) (World.cell?_of_block (a := ⟨0, 0, none⟩) h0)

theorem ne_off {B i j : Nat} (h : i ≠ j) : (⟨B, i, none⟩ : Addr) ≠ ⟨B, j, none⟩ := fun e => h (Addr.mk.inj e).2.1
theorem ne_blk {B B' i j : Nat} (h : B ≠ B') : (⟨B, i, none⟩ : Addr) ≠ ⟨B', j, none⟩ := fun e => h (Addr.mk.inj e).1

/-- A store into the printer's block, by the cell that is written. -/
theorem Pr.put0 {w : World} {B : Nat} {bv : Value} {F : Fl} (h : Pr w B bv F) (v : Value) : Pr (w.setCell ⟨B, 0, none⟩ v) B v F := by
  have hlo := h.lo
  have o : ∀ j, 0 ≠ j → (w.setCell ⟨B, 0, none⟩ v).cell? ⟨B, j, none⟩ = w.cell? ⟨B, j, none⟩ := fun j hj => World.cell?_setCell_other _ _ _ _ (ne_off hj)
  exact ⟨hlo, (World.cell?_setCell_other _ _ _ _ (ne_blk (by omega))).trans h.mx, World.cell?_setCell_same _ _ _ h.c0, (o _ (by omega)).trans h.c2, (o _ (by omega)).trans h.c3, (o _ (by omega)).trans h.c4, (o _ (by omega)).trans h.c5,
    (o _ (by omega)).trans h.c6, (o _ (by omega)).trans h.c7, (o _ (by omega)).trans h.c8, (o _ (by omega)).trans h.c9, (o _ (by omega)).trans h.c15, (o _ (by omega)).trans h.c16,
    fun j hj => by rw [o _ (by omega)]; exact h.ib j hj, fun j => by rw [World.frozen?_setCell]; exact h.fr j⟩
theorem Pr.putWp {w : World} {B : Nat} {bv : Value} {F : Fl} (h : Pr w B bv F) (b : Bool) : Pr (w.setCell ⟨B, 3, none⟩ (.bool b)) B bv { F with wp := b } := by
  have hlo := h.lo
  have o : ∀ j, 3 ≠ j → (w.setCell ⟨B, 3, none⟩ (.bool b)).cell? ⟨B, j, none⟩ = w.cell? ⟨B, j, none⟩ := fun j hj => World.cell?_setCell_other _ _ _ _ (ne_off hj)
  exact ⟨hlo, (World.cell?_setCell_other _ _ _ _ (ne_blk (by omega))).trans h.mx, (o _ (by omega)).trans h.c0, (o _ (by omega)).trans h.c2, World.cell?_setCell_same _ _ _ h.c3, (o _ (by omega)).trans h.c4, (o _ (by omega)).trans h.c5,
    (o _ (by omega)).trans h.c6, (o _ (by omega)).trans h.c7, (o _ (by omega)).trans h.c8, (o _ (by omega)).trans h.c9, (o _ (by omega)).trans h.c15, (o _ (by omega)).trans h.c16,
    fun j hj => by rw [o _ (by omega)]; exact h.ib j hj, fun j => by rw [World.frozen?_setCell]; exact h.fr j⟩
theorem Pr.putMi {w : World} {B : Nat} {bv : Value} {F : Fl} (h : Pr w B bv F) (b : Bool) : Pr (w.setCell ⟨B, 5, none⟩ (.bool b)) B bv { F with mi := b } := by
  have hlo := h.lo
  have o : ∀ j, 5 ≠ j → (w.setCell ⟨B, 5, none⟩ (.bool b)).cell? ⟨B, j, none⟩ = w.cell? ⟨B, j, none⟩ := fun j hj => World.cell?_setCell_other _ _ _ _ (ne_off hj)
  exact ⟨hlo, (World.cell?_setCell_other _ _ _ _ (ne_blk (by omega))).trans h.mx, (o _ (by omega)).trans h.c0, (o _ (by omega)).trans h.c2, (o _ (by omega)).trans h.c3, (o _ (by omega)).trans h.c4, World.cell?_setCell_same _ _ _ h.c5,
    (o _ (by omega)).trans h.c6, (o _ (by omega)).trans h.c7, (o _ (by omega)).trans h.c8, (o _ (by omega)).trans h.c9, (o _ (by omega)).trans h.c15, (o _ (by omega)).trans h.c16,
    fun j hj => by rw [o _ (by omega)]; exact h.ib j hj, fun j => by rw [World.frozen?_setCell]; exact h.fr j⟩
theorem Pr.putSh {w : World} {B : Nat} {bv : Value} {F : Fl} (h : Pr w B bv F) (b : Bool) : Pr (w.setCell ⟨B, 7, none⟩ (.bool b)) B bv { F with sh := b } := by
  have hlo := h.lo
  have o : ∀ j, 7 ≠ j → (w.setCell ⟨B, 7, none⟩ (.bool b)).cell? ⟨B, j, none⟩ = w.cell? ⟨B, j, none⟩ := fun j hj => World.cell?_setCell_other _ _ _ _ (ne_off hj)
  exact ⟨hlo, (World.cell?_setCell_other _ _ _ _ (ne_blk (by omega))).trans h.mx, (o _ (by omega)).trans h.c0, (o _ (by omega)).trans h.c2, (o _ (by omega)).trans h.c3, (o _ (by omega)).trans h.c4, (o _ (by omega)).trans h.c5,
    (o _ (by omega)).trans h.c6, World.cell?_setCell_same _ _ _ h.c7, (o _ (by omega)).trans h.c8, (o _ (by omega)).trans h.c9, (o _ (by omega)).trans h.c15, (o _ (by omega)).trans h.c16,
    fun j hj => by rw [o _ (by omega)]; exact h.ib j hj, fun j => by rw [World.frozen?_setCell]; exact h.fr j⟩
theorem Pr.putZe {w : World} {B : Nat} {bv : Value} {F : Fl} (h : Pr w B bv F) (b : Bool) : Pr (w.setCell ⟨B, 9, none⟩ (.bool b)) B bv { F with ze := b } := by
  have hlo := h.lo
  have o : ∀ j, 9 ≠ j → (w.setCell ⟨B, 9, none⟩ (.bool b)).cell? ⟨B, j, none⟩ = w.cell? ⟨B, j, none⟩ := fun j hj => World.cell?_setCell_other _ _ _ _ (ne_off hj)
  exact ⟨hlo, (World.cell?_setCell_other _ _ _ _ (ne_blk (by omega))).trans h.mx, (o _ (by omega)).trans h.c0, (o _ (by omega)).trans h.c2, (o _ (by omega)).trans h.c3, (o _ (by omega)).trans h.c4, (o _ (by omega)).trans h.c5,
    (o _ (by omega)).trans h.c6, (o _ (by omega)).trans h.c7, (o _ (by omega)).trans h.c8, World.cell?_setCell_same _ _ _ h.c9, (o _ (by omega)).trans h.c15, (o _ (by omega)).trans h.c16,
    fun j hj => by rw [o _ (by omega)]; exact h.ib j hj, fun j => by rw [World.frozen?_setCell]; exact h.fr j⟩
theorem Pr.putWid {w : World} {B : Nat} {bv : Value} {F : Fl} (h : Pr w B bv F) (n : Int) : Pr (w.setCell ⟨B, 15, none⟩ (.int .i64 n)) B bv { F with wid := n } := by
  have hlo := h.lo
  have o : ∀ j, 15 ≠ j → (w.setCell ⟨B, 15, none⟩ (.int .i64 n)).cell? ⟨B, j, none⟩ = w.cell? ⟨B, j, none⟩ := fun j hj => World.cell?_setCell_other _ _ _ _ (ne_off hj)
  exact ⟨hlo, (World.cell?_setCell_other _ _ _ _ (ne_blk (by omega))).trans h.mx, (o _ (by omega)).trans h.c0, (o _ (by omega)).trans h.c2, (o _ (by omega)).trans h.c3, (o _ (by omega)).trans h.c4, (o _ (by omega)).trans h.c5,
    (o _ (by omega)).trans h.c6, (o _ (by omega)).trans h.c7, (o _ (by omega)).trans h.c8, (o _ (by omega)).trans h.c9, World.cell?_setCell_same _ _ _ h.c15, (o _ (by omega)).trans h.c16,
    fun j hj => by rw [o _ (by omega)]; exact h.ib j hj, fun j => by rw [World.frozen?_setCell]; exact h.fr j⟩
theorem Pr.drew {w : World} {B : Nat} {bv : Value} {F : Fl} (h : Pr w B bv F) : Pr w.drew B bv F := h.kept (fun _ => rfl) (fun _ => rfl) rfl
theorem Pr.drewN {w : World} {B : Nat} {bv : Value} {F : Fl} (h : Pr w B bv F) (n : Nat) : Pr (w.drewN n) B bv F := h.kept (fun _ => rfl) (fun _ => rfl) rfl

/-- What a step on the printer B leaves alone: all old blocks but B's and 'row'; of B's own block all cells but the first. -/
structure Step (w w' : World) (B : Nat) (row : Option Nat) : Prop where
  os : w'.os = w.os
  tape : w'.tape = w.tape
  output : w'.output = w.output
  size : w.heap.size ≤ w'.heap.size
  block : ∀ k, k < w.heap.size → k ≠ B → some k ≠ row → w'.heap[k]? = w.heap[k]?
  cell : ∀ j, j ≠ 0 → w'.cell? ⟨B, j, none⟩ = w.cell? ⟨B, j, none⟩
  froz : ∀ j, w'.frozen? ⟨B, j, none⟩ = w.frozen? ⟨B, j, none⟩

theorem Step.refl (w : World) (B : Nat) (row : Option Nat) : Step w w B row := ⟨rfl, rfl, rfl, Nat.le_refl _, fun _ _ _ _ => rfl, fun _ _ => rfl, fun _ => rfl⟩
theorem Step.below {w w' : World} {B : Nat} {row : Option Nat} (h : Step w w' B row) (hB : B < w.heap.size) (hr : ∀ k, row = some k → B < k) : Below B w w' :=
  ⟨h.os, h.tape, h.output, h.size, fun k hk => h.block k (by omega) (by omega) (fun e => by have := hr k e.symm; omega)⟩
/-- Two steps; the row that the second may write is the first's or a new one. -/
theorem Step.trans {a b c : World} {B : Nat} {row row' : Option Nat} (h : Step a b B row) (k : Step b c B row') (hr : row' = row ∨ ∀ r, row' = some r → a.heap.size ≤ r) : Step a c B row :=
  ⟨k.os.trans h.os, k.tape.trans h.tape, k.output.trans h.output, Nat.le_trans h.size k.size,
    fun i hi hB hne => (k.block i (Nat.lt_of_lt_of_le hi h.size) hB (fun e => by
      rcases hr with rfl | hr
      · exact hne e
      · have := hr i e.symm; omega)).trans (h.block i hi hB hne),
    fun j hj => (k.cell j hj).trans (h.cell j hj), fun j => (k.froz j).trans (h.froz j)⟩
theorem Step.drewN {w w' : World} {B : Nat} {row : Option Nat} (h : Step w w' B row) (n : Nat) : Step w (w'.drewN n) B row := ⟨h.os, h.tape, h.output, h.size, h.block, h.cell, h.froz⟩
theorem Step.drew {w w' : World} {B : Nat} {row : Option Nat} (h : Step w w' B row) : Step w w'.drew B row := ⟨h.os, h.tape, h.output, h.size, h.block, h.cell, h.froz⟩
theorem Step.ofDrewN {w w' : World} {B : Nat} {row : Option Nat} {n : Nat} (h : Step (w.drewN n) w' B row) : Step w w' B row := ⟨h.os, h.tape, h.output, h.size, h.block, h.cell, h.froz⟩
theorem Step.grown {w w' : World} {B : Nat} {row : Option Nat} (hg : w.grownBy w' row) (hB : B < w.heap.size) (hr : some B ≠ row) : Step w w' B row :=
  ⟨hg.os, hg.tape, hg.output, hg.size, fun k hk _ hne => hg.block k hk hne,
    fun j _ => World.cell?_of_block (a := ⟨B, j, none⟩) (hg.block B hB hr), fun j => World.frozen?_of_block (a := ⟨B, j, none⟩) (hg.block B hB hr)⟩
theorem Step.put0 {w w' : World} {B : Nat} {row : Option Nat} (h : Step w w' B row) (v : Value) : Step w (w'.setCell ⟨B, 0, none⟩ v) B row :=
  ⟨h.os, h.tape, h.output, by rw [World.size_setCell]; exact h.size,
    fun k hk hB hne => (Below.heap_setCell _ _ _ _ (by exact hB)).trans (h.block k hk hB hne),
    fun j hj => (World.cell?_setCell_other _ _ _ _ (ne_off (Ne.symm hj))).trans (h.cell j hj), fun j => by rw [World.frozen?_setCell]; exact h.froz j⟩

/-- Bytes that lie in memory apart from what a step on B writes. -/
structure SrcAt (w : World) (B : Nat) (row : Option Nat) (D o : Nat) (src : List UInt8) : Prop where
  get : ∀ (j : Nat) (h : j < src.length), w.cell? ⟨D, o + j, none⟩ = some (.int .u8 (src[j].toNat : Int))
  apart : (D = B ∧ 17 ≤ o) ∨ (D ≠ B ∧ D < w.heap.size ∧ some D ≠ row)
theorem SrcAt.step {w w' : World} {B : Nat} {row row' : Option Nat} {D o : Nat} {src : List UInt8} (h : SrcAt w B row D o src) (hs : Step w w' B row) (hr : row' = row ∨ ∀ r, row' = some r → w.heap.size ≤ r) :
    SrcAt w' B row' D o src := by
  have hsz := hs.size
  refine ⟨fun j hj => ?_, ?_⟩
  · rcases h.apart with ⟨rfl, ho⟩ | ⟨h1, h2, h3⟩
    · rw [hs.cell _ (by omega)]; exact h.get j hj
    · rw [World.cell?_of_block (a := ⟨D, o + j, none⟩) (hs.block D h2 h1 h3)]; exact h.get j hj
  · rcases h.apart with h1 | ⟨h1, h2, h3⟩
    · exact Or.inl h1
    · refine Or.inr ⟨h1, by omega, fun e => ?_⟩
      rcases hr with rfl | hr
      · exact h3 e
      · have := hr D e.symm; omega

end Go.Proofs.YoedmwDoor
