/-
  THE NUMBER's BUFFER: what fmtInteger knows of the row into which it lays the digits from the right.
-/
import Derived.Test.YoedmwDoorPad
import Derived.Test.YoedmwDoorPlain
import Derived.Laws.BitsAllLaws
import Derived.Deep.CutRange
namespace Go.Proofs.YoedmwDoor
open Go.RowKit

theorem got_pad (w : World) (B : Nat) (F : Fl) (D o cc : Nat) (src : List UInt8) (hG : Got w B F none 0 0 []) (hS : SrcAt w B none D o src) (hA : Asc w D o src) (hlen : src.length ≤ 100000) (hze : F.ze = false) (h1 : 0 ≤ F.wid) (h2 : F.wid ≤ 65536) :
    Calls Edmg.prog 21 #[.pointer (some ⟨B, 2, none⟩), .slice (some ⟨D, o, none⟩) src.length cc] w fun e w' => e = .returned (.tuple #[]) ∧
      ∃ ao n c, Got w' B F ao n c (padOut F.mi (if F.wp then (F.wid - src.length).toNat else 0) src) ∧ Step w w' B none := by
  by_cases hw : F.wp = false ∨ F.wid = 0
  · refine (pad_plain w B F D o cc src hG hS hlen hw).mono ?_
    rintro e w' ⟨rfl, ao, c, g, s⟩
    refine ⟨rfl, ao, src.length, c, ?_, s⟩
    have e0 : (if F.wp then (F.wid - src.length).toNat else 0) = 0 := by
      rcases hw with hw | hw
      · rw [hw]; rfl
      · split <;> omega
    rw [e0]
    unfold padOut
    split <;> simpa using g
  · have hwp : F.wp = true := by
      cases h : F.wp
      · exact absurd (Or.inl h) hw
      · rfl
    have hwid : 1 ≤ F.wid := by
      have : F.wid ≠ 0 := fun h => hw (Or.inr h)
      omega
    rw [hwp]
    cases hmi : F.mi
    · refine (pad_left w B F D o cc src hG hS hA hlen hze hwp hmi hwid h2).mono ?_
      rintro e w' ⟨rfl, ao, n, c, g, s⟩
      exact ⟨rfl, ao, n, c, g, s⟩
    · refine (pad_right w B F D o cc src hG hS hA hlen hze hwp hmi hwid h2).mono ?_
      rintro e w' ⟨rfl, ao, n, c, g, s⟩
      exact ⟨rfl, ao, n, c, g, s⟩

/-- The row: N cells of block D from o on; w is the world in which the call began. -/
structure Room (w wc : World) (B : Nat) (F : Fl) (D o N : Nat) : Prop where
  got : Got wc B F none 0 0 []
  step : Below B w wc
  apart : (D = B ∧ o = 17) ∨ (B < D ∧ D < wc.heap.size)
  there : wc.there D o N

theorem room_int {w : World} {B : Nat} {F : Fl} (h : Got w B F none 0 0 []) : Room w w B F B 17 68 :=
  ⟨h, Below.refl _ _, Or.inl ⟨rfl, rfl⟩, fun j hj => ⟨h.pr.ib j hj, h.pr.fr _⟩⟩
theorem Got.alloc {w : World} {B : Nat} {F : Fl} {ao : Option Addr} {n c : Nat} {bs : List UInt8} (h : Got w B F ao n c bs) (o : Obj) : Got (w.alloc o) B F ao n c bs := ⟨h.pr.alloc o, h.own.alloc o, h.len⟩
theorem room_new {w : World} {B : Nat} {F : Fl} (h : Got w B F none 0 0 []) (L : Nat) : Room w (w.alloc (.cells (zs L) 5)) B F w.heap.size 0 L := by
  refine ⟨h.alloc _, (Below.refl _ _).alloc (Nat.le_of_lt h.pr.lt) _, Or.inr ⟨h.pr.lt, by simp⟩, fun j hj => ?_⟩
  rw [Nat.zero_add, World.cell?_alloc_at _ _ _ _ rfl, World.frozen?_alloc_at _ _ _ _ rfl, Array.getElem?_eq_getElem (by rw [zs_size]; exact hj)]
  exact ⟨rfl, rfl⟩
theorem Room.ofDrewN {w wc : World} {B : Nat} {F : Fl} {D o N n : Nat} (h : Room (w.drewN n) wc B F D o N) : Room w wc B F D o N := ⟨h.got, ⟨h.step.os, h.step.tape, h.step.output, h.step.size, h.step.block⟩, h.apart, h.there⟩

/-- From place i on the row holds the bytes bs. -/
structure Bufr (w wr : World) (B : Nat) (F : Fl) (D o N i : Nat) (bs : List UInt8) : Prop where
  room : Room w wr B F D o N
  len : bs.length + i = N
  get : ∀ (j : Nat) (h : j < bs.length), wr.cell? ⟨D, o + (i + j), none⟩ = some (.int .u8 (bs[j].toNat : Int))

theorem Bufr.start {w wc : World} {B : Nat} {F : Fl} {D o N : Nat} (h : Room w wc B F D o N) : Bufr w wc B F D o N N [] := ⟨h, by simp, fun j h => absurd h (by simp)⟩
theorem Bufr.cell {w wr : World} {B : Nat} {F : Fl} {D o N i : Nat} {bs : List UInt8} (h : Bufr w wr B F D o N i bs) (k : Nat) (hk : k < N) : (∃ v, wr.cell? ⟨D, o + k, none⟩ = some v) ∧ wr.frozen? ⟨D, o + k, none⟩ = false := by
  obtain ⟨h1, h2⟩ := h.room.there k hk
  exact ⟨Option.isSome_iff_exists.1 h1, h2⟩
theorem Bufr.put {w wr : World} {B : Nat} {F : Fl} {D o N k : Nat} {bs : List UInt8} (h : Bufr w wr B F D o N (k + 1) bs) (c : UInt8) : Bufr w (wr.setCell ⟨D, o + k, none⟩ (.int .u8 (c.toNat : Int))) B F D o N k (c :: bs) := by
  have hl := h.len
  have hB := h.room.got.pr.lt
  have hlo := h.room.got.pr.lo
  obtain ⟨⟨v, hv⟩, _⟩ := h.cell k (by omega)
  refine ⟨⟨⟨?_, ?_, by simp⟩, ?_, by rw [World.size_setCell]; exact h.room.apart, fun j hj => ?_⟩, by simp; omega, fun j hj => ?_⟩
  · rcases h.room.apart with ⟨rfl, rfl⟩ | ⟨h1, h2⟩
    · have p := h.room.got.pr
      have e : ∀ j, j < 17 → (wr.setCell ⟨D, 17 + k, none⟩ (.int .u8 (c.toNat : Int))).cell? ⟨D, j, none⟩ = wr.cell? ⟨D, j, none⟩ := fun j hj => World.cell?_setCell_other _ _ _ _ (ne_off (by omega))
      exact ⟨hlo, (World.cell?_setCell_other _ _ _ _ (ne_blk (by omega))).trans p.mx, (e _ (by omega)).trans p.c0, (e _ (by omega)).trans p.c2, (e _ (by omega)).trans p.c3, (e _ (by omega)).trans p.c4, (e _ (by omega)).trans p.c5,
        (e _ (by omega)).trans p.c6, (e _ (by omega)).trans p.c7, (e _ (by omega)).trans p.c8, (e _ (by omega)).trans p.c9, (e _ (by omega)).trans p.c15, (e _ (by omega)).trans p.c16,
        fun j hj => by
          by_cases hjk : j = k
          · subst hjk; rw [World.cell?_setCell_same _ _ _ hv]; rfl
          · rw [World.cell?_setCell_other _ _ _ _ (ne_off (by omega))]; exact p.ib j hj,
        fun j => by rw [World.frozen?_setCell]; exact p.fr j⟩
    · exact h.room.got.pr.kept (fun j => World.cell?_setCell_other _ _ _ _ (ne_blk (by omega))) (fun j => World.frozen?_setCell _ _ _ _) (World.cell?_setCell_other _ _ _ _ (ne_blk (by omega)))
  · exact World.ownsRow_nil _ _ _ _
  · refine h.room.step.setCell ?_ _
    rcases h.room.apart with ⟨rfl, _⟩ | ⟨h1, _⟩
    · exact Nat.le_refl _
    · exact Nat.le_of_lt h1
  · refine ⟨?_, by rw [World.frozen?_setCell]; exact (h.room.there j hj).2⟩
    by_cases hjk : j = k
    · subst hjk; rw [World.cell?_setCell_same _ _ _ hv]; rfl
    · rw [World.cell?_setCell_other _ _ _ _ (ne_off (by omega))]; exact (h.room.there j hj).1
  · cases j with
    | zero => rw [Nat.add_zero, World.cell?_setCell_same _ _ _ hv]; rfl
    | succ j =>
      rw [World.cell?_setCell_other _ _ _ _ (ne_off (by omega)), show o + (k + (j + 1)) = o + (k + 1 + j) by omega]
      exact h.get j (by simpa using hj)

/-- While the digits are laid: those of u are still to come. -/
structure HexIn (w wr : World) (B : Nat) (F : Fl) (D o N v u i : Nat) (bs : List UInt8) : Prop where
  buf : Bufr w wr B F D o N i bs
  eq : hexD v = hexD u ++ bs
  lt : u < 18446744073709551616
theorem HexIn.start {w wc : World} {B : Nat} {F : Fl} {D o N v : Nat} (h : Room w wc B F D o N) (hv : v < 18446744073709551616) : HexIn w wc B F D o N v v N [] := ⟨Bufr.start h, by simp, hv⟩
theorem HexIn.room {w wr : World} {B : Nat} {F : Fl} {D o N v u i : Nat} {bs : List UInt8} (h : HexIn w wr B F D o N v u i bs) : N ≤ i + 15 ∧ i ≤ N := by
  have h1 := congrArg List.length h.eq
  have h2 := (hexD_len v).2
  have h3 := (hexD_len u).1
  have h4 := h.buf.len
  rw [List.length_append] at h1
  omega
theorem HexIn.put {w wr : World} {B : Nat} {F : Fl} {D o N v u k : Nat} {bs : List UInt8} (h : HexIn w wr B F D o N v u (k + 1) bs) (hu : ¬ u < 16) :
    HexIn w (wr.setCell ⟨D, o + k, none⟩ (.int .u8 ((hexDig (u % 16)).toNat : Int))) B F D o N v (u / 16) k (hexDig (u % 16) :: bs) :=
  ⟨h.buf.put _, by rw [h.eq, hexD_big hu h.lt]; simp, by have := h.lt; omega⟩
theorem HexIn.last {w wr : World} {B : Nat} {F : Fl} {D o N v u k : Nat} {bs : List UInt8} (h : HexIn w wr B F D o N v u (k + 1) bs) (hu : u < 16) :
    Bufr w (wr.setCell ⟨D, o + k, none⟩ (.int .u8 ((hexDig u).toNat : Int))) B F D o N k (hexD v) := by
  rw [h.eq, hexD_small hu]
  exact h.buf.put _
theorem HexIn.and15 {w wr : World} {B : Nat} {F : Fl} {D o N v u i : Nat} {bs : List UInt8} (h : HexIn w wr B F D o N v u i bs) : bits .and .u64 (u : Int) 15 = ((u % 16 : Nat) : Int) := by
  have := u64_and_nat u 15 h.lt (by omega)
  rw [nat_mask4] at this
  exact this

/-- What pad wants, once the zero flag is off. -/
theorem Bufr.atPad {w wr : World} {B : Nat} {F : Fl} {D o N i : Nat} {src : List UInt8} (h : Bufr w wr B F D o N i src) (hlow : ∀ c ∈ src, c.toNat < 128) :
    Got (wr.setCell ⟨B, 9, none⟩ (.bool false)) B { F with ze := false } none 0 0 [] ∧ SrcAt (wr.setCell ⟨B, 9, none⟩ (.bool false)) B none D (o + i) src ∧ Asc (wr.setCell ⟨B, 9, none⟩ (.bool false)) D (o + i) src := by
  have hB := h.room.got.pr.lt
  have hget : ∀ (j : Nat) (hj : j < src.length), (wr.setCell ⟨B, 9, none⟩ (.bool false)).cell? ⟨D, o + i + j, none⟩ = some (.int .u8 (src[j].toNat : Int)) := fun j hj => by
    rw [World.cell?_setCell_other _ _ _ _ (by
      rcases h.room.apart with ⟨rfl, rfl⟩ | ⟨h1, _⟩
      · exact ne_off (by omega)
      · exact ne_blk (by omega)), Nat.add_assoc]
    exact h.get j hj
  refine ⟨⟨h.room.got.pr.putZe false, World.ownsRow_nil _ _ _ _, rfl⟩, ⟨hget, ?_⟩, ⟨hget, fun j hj => ?_⟩⟩
  · rcases h.room.apart with ⟨rfl, rfl⟩ | ⟨h1, h2⟩
    · exact Or.inl ⟨rfl, by omega⟩
    · exact Or.inr ⟨by omega, by rw [World.size_setCell]; exact h2, by simp⟩
  · have := hlow _ (List.getElem_mem hj)
    omega

/-- Behind pad: the zero flag is laid back. -/
theorem after_pad {w wr w2 : World} {B : Nat} {F : Fl} {D o N i : Nat} {src out : List UInt8} {ao : Option Addr} {n c : Nat} (h : Bufr w wr B F D o N i src) (hg : Got w2 B { F with ze := false } ao n c out)
    (hs : Step (wr.setCell ⟨B, 9, none⟩ (.bool false)) w2 B none) : Got (w2.setCell ⟨B, 9, none⟩ (.bool F.ze)) B F ao n c out ∧ Below B w (w2.setCell ⟨B, 9, none⟩ (.bool F.ze)) := by
  have hB := h.room.got.pr.lt
  refine ⟨⟨hg.pr.putZe F.ze, ownsRow_setCell_below hg.own (by show B < B + 1; omega) _, hg.len⟩, ?_⟩
  exact ((h.room.step.setCell (Nat.le_refl _) _).trans (hs.below (by rw [World.size_setCell]; exact hB) (fun k hk => by cases hk))).setCell (Nat.le_refl _) _

end Go.Proofs.YoedmwDoor
