/-
  THE WALKS of the small functions: the printer's maker, its setters and readers.
-/
import Derived.Test.YoedmwDoorMem
import Derived.Deep.RegionHeld3
import Derived.Deep.DrawnRows
namespace Go.Proofs.YoedmwDoor
open Go.RowKit

theorem setSharp (w : World) (B : Nat) (bv : Value) (F : Fl) (b : Bool) (h : Pr w B bv F) :
    Calls Edmg.prog 9 #[.pointer (some ⟨B, 0, none⟩), .bool b] w fun e w' => e = .returned (.tuple #[]) ∧ w' = w.setCell ⟨B, 7, none⟩ (.bool b) := by
  have c7 := h.c7
  have fr := h.fr
  go_enter Edmg.func9, Edmg.ntmps9
  go_wp2
  go_end0
  exact ⟨rfl, rfl⟩
theorem setMinus (w : World) (B : Nat) (bv : Value) (F : Fl) (b : Bool) (h : Pr w B bv F) :
    Calls Edmg.prog 7 #[.pointer (some ⟨B, 0, none⟩), .bool b] w fun e w' => e = .returned (.tuple #[]) ∧ w' = w.setCell ⟨B, 5, none⟩ (.bool b) := by
  have c5 := h.c5
  have fr := h.fr
  go_enter Edmg.func7, Edmg.ntmps7
  go_wp2
  go_end0
  exact ⟨rfl, rfl⟩
theorem setZero (w : World) (B : Nat) (bv : Value) (F : Fl) (b : Bool) (h : Pr w B bv F) :
    Calls Edmg.prog 8 #[.pointer (some ⟨B, 0, none⟩), .bool b] w fun e w' => e = .returned (.tuple #[]) ∧ w' = w.setCell ⟨B, 9, none⟩ (.bool b) := by
  have c9 := h.c9
  have fr := h.fr
  go_enter Edmg.func8, Edmg.ntmps8
  go_wp2
  go_end0
  exact ⟨rfl, rfl⟩
theorem setWidth (w : World) (B : Nat) (bv : Value) (F : Fl) (b : Bool) (n : Int) (h : Pr w B bv F) :
    Calls Edmg.prog 6 #[.pointer (some ⟨B, 0, none⟩), .bool b, .int .i64 n] w fun e w' => e = .returned (.tuple #[]) ∧ w' = (w.setCell ⟨B, 3, none⟩ (.bool b)).setCell ⟨B, 15, none⟩ (.int .i64 n) := by
  have c3 := h.c3
  have c15 := h.c15
  have fr := h.fr
  go_enter Edmg.func6, Edmg.ntmps6
  go_wp2
  go_end0
  exact ⟨rfl, rfl⟩
theorem getSharp (w : World) (B : Nat) (b : Bool) (h : w.cell? ⟨B, 7, none⟩ = some (.bool b)) :
    Calls Edmg.prog 14 #[.pointer (some ⟨B, 0, none⟩)] w fun e w' => e = .returned (.bool b) ∧ w = w' := by
  go_enter Edmg.func14, Edmg.ntmps14
  go_wp2
  go_ret
  exact ⟨rfl, rfl⟩

/-- Twelve flags, all off. -/
def off12 : List Value := List.replicate 12 (.bool false)
theorem Edmg.size42 : (Edmg.prog.info? 42).map (·.size) = some 12 := by kernel_rfl

theorem off12_one : off12.toArray.all (·.oneCell') = true := all_oneCell_toArray (fun v hv => by rw [List.eq_of_mem_replicate hv]; rfl)

theorem clearFlags (w : World) (B : Nat) (h : w.there B 3 12) :
    Calls Edmg.prog 18 #[.pointer (some ⟨B, 2, none⟩)] w fun e w' => e = .returned (.tuple #[]) ∧ w' = w.setCells B 3 off12 := by
  have HT : Hid (w.there B 3 12) := h
  clear h
  go_enter Edmg.func18, Edmg.ntmps18
  go_wp2_with (refine wpList_store_mid (by rfl) 42 (.tmp 5) (.tmp 3) (by rfl) B 3 off12.toArray (by rfl) (by rfl) HT.out Edmg.size42 off12_one ?_)
  go_end0
  exact ⟨rfl, rfl⟩

theorem fmtInit (w : World) (B : Nat) (v : Value) (h2 : w.cell? ⟨B, 2, none⟩ = some v) (hf : w.frozen? ⟨B, 2, none⟩ = false) (h : w.there B 3 12) :
    Calls Edmg.prog 16 #[.pointer (some ⟨B, 2, none⟩), .pointer (some ⟨B, 0, none⟩)] w fun e w' => e = .returned (.tuple #[]) ∧ w' = (w.setCell ⟨B, 2, none⟩ (.pointer (some ⟨B, 0, none⟩))).setCells B 3 off12 := by
  have HT : Hid ((w.setCell ⟨B, 2, none⟩ (.pointer (some ⟨B, 0, none⟩))).there B 3 12) := fun j hj => by
    rw [World.cell?_setCell_other _ _ _ _ (ne_off (by omega)), World.frozen?_setCell]
    exact h j hj
  clear h
  go_enter Edmg.func16, Edmg.ntmps16
  go_wp2_with (go_at_call 18; refine (clearFlags _ B HT.out).mono ?_; rintro e w' ⟨rfl, rfl⟩)
  go_end0
  exact ⟨rfl, rfl⟩


/-- A new printer's 88 cells. -/
def zero88 : Array Value := #[.slice none 0 0, .nilIface, .pointer none] ++ Array.replicate 12 (.bool false) ++ #[.int .i64 0, .int .i64 0] ++ Array.replicate 68 (.int .u8 0) ++ Array.replicate 3 (.bool false)
theorem zero_47 (w : World) : (zeroValue 47).run Edmg.prog w = .ok (.agg zero88) w := by kernel_rfl
theorem z88_size : zero88.size = 88 := by kernel_rfl
theorem z88_0 : zero88[0]? = some (.slice none 0 0) := by kernel_rfl
theorem z88_2 : zero88[2]? = some (.pointer none) := by kernel_rfl
theorem z88_15 : zero88[15]? = some (.int .i64 0) := by kernel_rfl
theorem z88_16 : zero88[16]? = some (.int .i64 0) := by kernel_rfl
theorem z88_87 : zero88[87]? = some (.bool false) := by kernel_rfl

theorem z88_there (w : World) : (w.alloc (.cells (zero88.setIfInBounds 87 (.bool false)) 47)).there w.heap.size 3 12 := fun j hj => by
  rw [World.cell?_alloc_at _ _ _ _ rfl, World.frozen?_alloc_at _ _ _ _ rfl]
  refine ⟨?_, rfl⟩
  rw [Array.getElem?_eq_getElem (by rw [Array.size_setIfInBounds, z88_size]; omega)]
  rfl

theorem pr_new (W : World) (B : Nat) (h2 : 2 ≤ B) (hmx : W.cell? ⟨0, 0, none⟩ = some (.int .i64 2147483647))
    (hc : ∀ j, W.cell? ⟨B, j, none⟩ = ((zero88.setIfInBounds 87 (.bool false)).setIfInBounds 2 (.pointer (some ⟨B, 0, none⟩)))[j]?) (hf : ∀ j, W.frozen? ⟨B, j, none⟩ = false) :
    Pr (W.setCells B 3 off12) B (.slice none 0 0) ⟨false, false, false, false, 0⟩ := by
  have ho : off12.length = 12 := rfl
  have hsz : ((zero88.setIfInBounds 87 (.bool false)).setIfInBounds 2 (.pointer (some ⟨B, 0, none⟩))).size = 88 := by rw [Array.size_setIfInBounds, Array.size_setIfInBounds, z88_size]
  have hout : ∀ j, j < 3 ∨ 15 ≤ j → (W.setCells B 3 off12).cell? ⟨B, j, none⟩ = ((zero88.setIfInBounds 87 (.bool false)).setIfInBounds 2 (.pointer (some ⟨B, 0, none⟩)))[j]? := fun j hj => by
    rw [World.cell?_setCells_out _ _ _ _ _ (fun _ _ => by rw [ho]; exact hj), hc]
  have hin : ∀ j, j < 12 → (W.setCells B 3 off12).cell? ⟨B, 3 + j, none⟩ = some (.bool false) := fun j hj => by
    rw [World.cell?_setCells_in _ _ _ _ (fun i hi => by
      rw [ho] at hi
      rw [hc, Array.getElem?_eq_getElem (by omega)]; rfl) j (by rw [ho]; exact hj)]
    congr 1
    exact List.eq_of_mem_replicate (List.getElem_mem _)
  refine ⟨h2, ?_, ?_, ?_, hin 0 (by omega), hin 1 (by omega), hin 2 (by omega), hin 3 (by omega), hin 4 (by omega), hin 5 (by omega), hin 6 (by omega), ?_, ?_, ?_, ?_⟩
  · rw [World.cell?_setCells_out _ _ _ _ _ (fun h _ => by simp at h; omega)]
    exact hmx
  · rw [hout 0 (by omega), Array.getElem?_setIfInBounds_ne (by omega), Array.getElem?_setIfInBounds_ne (by omega)]; exact z88_0
  · rw [hout 2 (by omega), Array.getElem?_setIfInBounds_self_of_lt (by rw [Array.size_setIfInBounds, z88_size]; omega)]
  · rw [hout 15 (by omega), Array.getElem?_setIfInBounds_ne (by omega), Array.getElem?_setIfInBounds_ne (by omega)]; exact z88_15
  · rw [hout 16 (by omega), Array.getElem?_setIfInBounds_ne (by omega), Array.getElem?_setIfInBounds_ne (by omega)]; exact z88_16
  · intro j hj
    rw [hout _ (by omega), Array.getElem?_eq_getElem (by omega)]
    rfl
  · intro j
    rw [World.frozen?_setCells, hf]

theorem below_setCells {B : Nat} {a : World} (b : Nat) (hb : B ≤ b) : ∀ (vs : List Value) (o : Nat) (w : World), Below B a w → Below B a (w.setCells b o vs)
  | [], _, _, h => h
  | v :: r, o, w, h => by
    rw [World.setCells]
    exact below_setCells b hb r (o + 1) _ (h.setCell hb v)

set_option maxHeartbeats 800000 in
theorem newPrinter (w : World) (h2 : 2 ≤ w.heap.size) (hmx : w.cell? ⟨0, 0, none⟩ = some (.int .i64 2147483647)) :
    Calls Edmg.prog 5 #[] w fun e w' => e = .returned (.pointer (some ⟨w.heap.size, 0, none⟩)) ∧ Pr w' w.heap.size (.slice none 0 0) ⟨false, false, false, false, 0⟩ ∧ Below w.heap.size w w' := by
  have hz := zero_47
  have h87 := z88_87
  have H2 : Hid ((w.alloc (.cells (zero88.setIfInBounds 87 (.bool false)) 47)).cell? ⟨w.heap.size, 2, none⟩ = some (.pointer none)) := by
    show _ = _
    rw [World.cell?_alloc_at _ _ _ _ rfl, Array.getElem?_setIfInBounds_ne (by omega)]; exact z88_2
  have HF : Hid ((w.alloc (.cells (zero88.setIfInBounds 87 (.bool false)) 47)).frozen? ⟨w.heap.size, 2, none⟩ = false) := World.frozen?_alloc_at _ _ _ _ rfl
  go_enter Edmg.func5, Edmg.ntmps5
  go_wp2
  go_region_held3 (fun _ => True) (trivial) (first | (go_at_call 16; refine (fmtInit _ w.heap.size (.pointer none) (by exact H2) (by exact HF) (by exact z88_there w)).mono ?_; rintro e w' ⟨rfl, rfl⟩))
  go_wp2
  go_ret
  refine ⟨rfl, pr_new _ _ h2 ?_ ?_ ?_, below_setCells _ (Nat.le_refl _) _ _ _ (((Below.refl _ _).alloc (Nat.le_refl _) _).drew)⟩
  · rw [World.cell?_drew, World.cell?_alloc_past _ _ _ (by omega)]; exact hmx
  · intro j
    rw [World.cell?_drew, World.cell?_alloc_at _ _ _ _ rfl]
  · intro j
    rw [World.frozen?_drew, World.frozen?_alloc_at _ _ _ _ rfl]

theorem bufString (w : World) (B g n c : Nat) (bs : List UInt8) (h0 : w.cell? ⟨B, 0, none⟩ = some (.slice (some ⟨g, 0, none⟩) n c)) (hown : w.ownsRow (B + 1) 5 1 (.slice (some ⟨g, 0, none⟩) n c) n (vals bs)) (hn : bs.length = n) :
    Calls Edmg.prog 11 #[.pointer (some ⟨B, 0, none⟩)] w fun e w' => e = .returned (.string ⟨bs.toArray⟩) ∧ w = w' := by
  have hcv : (convert 37 9 (.slice (some ⟨g, 0, none⟩) n c)).run Edmg.prog w = .ok (.string ⟨bs.toArray⟩) w := by
    have h := run_convert_bytes_back (P := Edmg.prog) w 37 9 5 ⟨g, 0, none⟩ c bs Edmg.underlying37 Edmg.underlying5 Edmg.underlying9 (fun j hj => by
      rw [show (⟨g, 0, none⟩ : Addr).add j = ⟨g, 0 + j, none⟩ from Addr.add_mid _ _ _, Nat.zero_add, hown.cellAt j (by omega), vals_get bs j hj])
    rw [hn] at h
    exact h
  clear hown
  go_enter Edmg.func11, Edmg.ntmps11
  go_wp2
  go_ret
  exact ⟨rfl, rfl⟩
end Go.Proofs.YoedmwDoor
