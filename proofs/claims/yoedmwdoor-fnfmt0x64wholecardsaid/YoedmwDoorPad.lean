/-
  THE WALKS of utf8.RuneCount on ASCII, (*formatter).writePadding and (*formatter).pad.
-/
import Derived.Test.YoedmwDoorWrite
namespace Go.Proofs.YoedmwDoor
open Go.RowKit

/-- The bytes src lie at ⟨D, o⟩; all are ASCII. -/
structure Asc (w : World) (D o : Nat) (src : List UInt8) : Prop where
  get : ∀ (j : Nat) (h : j < src.length), w.cell? ⟨D, o + j, none⟩ = some (.int .u8 (src[j].toNat : Int))
  low : ∀ (j : Nat) (h : j < src.length), (src[j].toNat : Int) < 128

set_option maxHeartbeats 400000 in
theorem runeCount (w : World) (D o cc : Nat) (src : List UInt8) (h : Asc w D o src) (hl : src.length ≤ 500000) :
    Calls Edmg.prog 23 #[.slice (some ⟨D, o, none⟩) src.length cc] w fun e w' => e = .returned (.int .i64 src.length) ∧ w = w' := by
  go_enter Edmg.func23, Edmg.ntmps23
  go_wp2
  go_loop [4, 5] (fun n _ => ∃ k : Nat, k ≤ src.length ∧ n = .int .i64 k) (fun n _ => src.length - (intOf n).toNat)
  case atStart => exact ⟨0, Nat.zero_le _, rfl⟩
  case round =>
    obtain ⟨k, hk, rfl⟩ := hrel
    by_cases hlt : k < src.length
    · obtain ⟨x, hc, hlo⟩ : ∃ x : Int, w.cell? ⟨D, o + k, none⟩ = some (.int .u8 x) ∧ x < 128 := ⟨_, h.get k hlt, h.low k hlt⟩
      go_wp2
      go_round
      case rel => exact ⟨k + 1, hlt, by go_num⟩
      case measure => simp [intOf]; omega
    · obtain rfl : src.length = k := by omega
      go_wp2
      go_ret
      exact ⟨rfl, rfl⟩

theorem wpad_no (w : World) (B : Nat) (n : Int) (h : n ≤ 0) :
    Calls Edmg.prog 20 #[.pointer (some ⟨B, 2, none⟩), .int .i64 n] w fun e w' => e = .returned (.tuple #[]) ∧ w = w' := by
  go_enter Edmg.func20, Edmg.ntmps20
  go_wp2
  exact bodyPost_ret (results_none Edmg.results20 _ _ _) rfl ⟨rfl, rfl⟩

/-- The row g while it is filled with blanks behind the n bytes bs: i of k are laid. -/
structure Fill (w0 wr : World) (B g c n k i : Nat) (bs : List UInt8) : Prop where
  own : ∃ rest, wr.ownsRow (B + 1) 5 1 (.slice (some ⟨g, 0, none⟩) (n + k) c) (n + k) (vals bs ++ (List.replicate i (.int .u8 32) ++ rest))
  len : bs.length = n
  grown : w0.grownBy wr (some g)

theorem Fill.cell {w0 wr : World} {B g c n k i : Nat} {bs : List UInt8} (h : Fill w0 wr B g c n k i bs) (hi : i < k) : (∃ v, wr.cell? ⟨g, n + i, none⟩ = some v) ∧ wr.frozen? ⟨g, n + i, none⟩ = false := by
  obtain ⟨rest, ho⟩ := h.own
  refine ⟨?_, ho.frozenAt _⟩
  rw [ho.cellAt _ (by omega)]
  have hl := ho.1
  exact ⟨_, List.getElem?_eq_getElem (by omega)⟩
theorem Fill.put {w0 wr : World} {B g c n k i : Nat} {bs : List UInt8} (h : Fill w0 wr B g c n k i bs) (hi : i < k) : Fill w0 (wr.setCell ⟨g, n + i, none⟩ (.int .u8 32)) B g c n k (i + 1) bs := by
  obtain ⟨rest, ho⟩ := h.own
  have hl := ho.1
  have hvl : (vals bs).length = n := by rw [vals_length, h.len]
  obtain ⟨h1, h2⟩ := ho.stored (n + i) (.int .u8 32)
  refine ⟨⟨rest.tail, ?_⟩, h.len, h.grown.trans h2⟩
  have e : (vals bs ++ (List.replicate i (Value.int .u8 32) ++ rest)).set (n + i) (.int .u8 32) = vals bs ++ (List.replicate (i + 1) (.int .u8 32) ++ rest.tail) := by
    rw [List.length_append, List.length_append, List.length_replicate, hvl] at hl
    rcases rest with _ | ⟨x, rest⟩
    · simp at hl; omega
    · rw [List.set_append_right _ _ (by omega), hvl, show n + i - n = i by omega, List.set_append_right _ _ (by simp), List.length_replicate, Nat.sub_self, List.set_cons_zero, List.replicate_succ', List.append_assoc]
      rfl
  rw [← e]; exact h1
theorem Fill.done {w0 wr : World} {B g c n k : Nat} {bs : List UInt8} (h : Fill w0 wr B g c n k k bs) : wr.ownsRow (B + 1) 5 1 (.slice (some ⟨g, 0, none⟩) (n + k) c) (n + k) (vals (bs ++ List.replicate k 32)) := by
  obtain ⟨rest, ho⟩ := h.own
  have hl := ho.1
  rw [List.length_append, List.length_append, List.length_replicate, vals_length, h.len] at hl
  obtain rfl : rest = [] := List.length_eq_zero_iff.1 (by omega)
  have e : vals (bs ++ List.replicate k 32) = vals bs ++ (List.replicate k (.int .u8 32) ++ []) := by
    rw [vals_append, List.append_nil]; simp [vals]
  rw [e]; exact ho

/-- L noughts. -/
def zs (L : Nat) : Array Value := Array.replicate L (.int .u8 0)
theorem zs_size (L : Nat) : (zs L).size = L := by simp [zs]
theorem madeCells_zs (L : Nat) : madeCells (Value.cells (.int .u8 0)) L = zs L := by
  apply Array.ext
  · rw [size_madeCells, zs_size]
  · intro i h1 h2
    have := toList_madeCells_one (.int .u8 0) L
    have e : (madeCells #[Value.int .u8 0] L) = zs L := by
      apply Array.toList_inj.1
      rw [this]; simp [zs]
    show (madeCells #[Value.int .u8 0] L)[i] = _
    simp only [e]
theorem run_make_bytes (t : TypeId) (ht : Edmg.prog.underlying t = some (.slice 5)) (W : World) (L : Nat) (x : Int) (hx : x = L) (hL : L ≤ 1000000) :
    (Instr.makeSlice t (.int .i64 x) (.int .i64 x)).run Edmg.prog W = .ok (.slice (some ⟨W.heap.size, 0, none⟩) L L) (W.alloc (.cells (zs L) 5)) := by
  obtain ⟨i0, hi, hz0, hz1, hz2⟩ := info_parts Edmg.info5
  subst hx
  rw [run_make (P := Edmg.prog) W t 5 i0 (.int .u8 0) ht hi hz0 .i64 .i64 L L (by omega) (Int.le_refl _) (by rw [hz2]; omega) (by omega), hz1, Int.toNat_natCast, Nat.mul_one, madeCells_zs]

/-- The bytes bs, and noughts behind them, L cells in all. -/
def cp (L : Nat) (bs : List UInt8) : Array Value := (vals bs ++ List.replicate (L - bs.length) (Value.int .u8 0)).toArray
theorem cp_size (L : Nat) (bs : List UInt8) (h : bs.length ≤ L) : (cp L bs).size = L := by simp [cp, vals_length]; omega
theorem cp_nil (L : Nat) : cp L [] = zs L := by simp [cp, vals, zs]
theorem setRow_new (w : World) (C X : Array Value) (t : TypeId) : (w.alloc (.cells C t)).setRow w.heap.size X = w.alloc (.cells X t) := by
  have e : (w.heap.push (.cells C t)).modify w.heap.size (fun | .cells _ elem frozen => .cells X elem frozen | o => o) = w.heap.push (.cells X t) := by
    apply Array.ext_getElem?
    intro i
    rw [Array.getElem?_modify, Array.getElem?_push, Array.getElem?_push]
    by_cases hi : i = w.heap.size
    · subst hi; simp
    · rw [if_neg (Ne.symm hi), if_neg hi, if_neg hi]
  exact congrArg (fun h : Array Obj => ({ w with heap := h } : World)) e

theorem run_copy_new (w : World) (B ty : Nat) (ao : Option Addr) (n c L : Nat) (bs : List UInt8) (hown : w.ownsRow (B + 1) 5 1 (.slice ao n c) n (vals bs)) (hlen : bs.length = n) (hL : n ≤ L) :
    (Builtin.copy_ #[37, 37] ty #[.slice (some ⟨w.heap.size, 0, none⟩) L L, .slice ao n c]).run Edmg.prog (w.alloc (.cells (zs L) 5)) = .ok (goInt n) (w.alloc (.cells (cp L bs) 5)) := by
  have hsz : (Edmg.prog.info? 5).map (·.size) = some 1 := by kernel_rfl
  rcases hown.2 with ⟨hv, h0⟩ | ⟨g, cap, cur, hv, hb, hg, hnc, hcm, hcs, htake⟩
  · obtain rfl : bs = [] := List.length_eq_zero_iff.1 (by omega)
    subst h0
    rw [run_copy_none (P := Edmg.prog) _ 37 37 ty 5 _ _ L L 0 c Edmg.underlying37 hsz (by simp), cp_nil]
    rfl
  · obtain ⟨rfl, rfl⟩ : ao = some ⟨g, 0, none⟩ ∧ c = cap := by simpa using hv
    have h := run_copy_row (P := Edmg.prog) (w.alloc (.cells (zs L) 5)) 37 37 ty 5 w.heap.size 0 L L ⟨g, 0, none⟩ n c (zs L) 5 (vals bs) Edmg.underlying37 hsz (heap_alloc_new w _) (by rw [vals_length, hlen, show Nat.min n L = n from Nat.min_eq_left hL])
      (fun j u hu => by
        have := (hown.alloc (.cells (zs L) 5)).cells (g := g) rfl j u hu
        exact this) (by rw [vals_length, hlen, zs_size]; omega) (vals_one bs)
    rw [h, setRow_new, vals_length, hlen]
    have e : ((zs L).toList.take 0 ++ vals bs ++ (zs L).toList.drop (0 + n)).toArray = cp L bs := by
      unfold cp
      rw [hlen]
      simp [zs]
    rw [e]

theorem Got.le {w : World} {B : Nat} {F : Fl} {ao : Option Addr} {n c : Nat} {bs : List UInt8} (h : Got w B F ao n c bs) : n ≤ c := by
  rcases h.own.2 with ⟨hv, h0⟩ | ⟨g, cap, cur, hv, hb, hg, hnc, _⟩
  · omega
  · have : c = cap := by simp at hv; exact hv.2
    omega

theorem Fill.start (w : World) (B L n k : Nat) (bs : List UInt8) (hb : B < w.heap.size) (hl : bs.length = n) (hL : n + k ≤ L) (hL2 : L ≤ 1000000) :
    Fill (w.alloc (.cells (cp L bs) 5)) (w.alloc (.cells (cp L bs) 5)) B w.heap.size L n k 0 bs := by
  refine ⟨⟨List.replicate k (.int .u8 0), ?_, Or.inr ⟨w.heap.size, L, cp L bs, rfl, hb, heap_alloc_new w _, hL, by unfold maxLen; omega, by rw [cp_size _ _ (by omega), Nat.mul_one], ?_⟩⟩, hl, ⟨rfl, rfl, rfl, Nat.le_refl _, fun _ _ _ => rfl⟩⟩
  · simp [vals_length, hl]
  · unfold cp
    rw [Nat.mul_one, List.take_append, vals_length, hl, List.take_of_length_le (by rw [vals_length]; omega), List.take_replicate, show n + k - n = k by omega, Nat.min_eq_left (by omega)]
    rfl

theorem elem_of {t : TypeId} (ht : Edmg.prog.underlying t = some (.slice 5)) : Edmg.prog.elem t = 5 := by simp [Program.elem, ht]
theorem size_5 (W : World) : (sizeOf 5).run Edmg.prog W = .ok 1 W := by
  obtain ⟨i0, hi, hz0, hz1, hz2⟩ := info_parts Edmg.info5
  simp [sizeOf, typeInfo, hi, hz1]
/-- 'x[:h]' and 'x[l:]' on bytes. -/
theorem sl_h (t : TypeId) (ht : Edmg.prog.underlying t = some (.slice 5)) (a : Addr) (len cap h : Nat) (x : Int) (hx : x = h) (hh : h ≤ cap) (W : World) :
    (Instr.slice t (.slice (some a) len cap) none (some (.int .i64 x)) none).run Edmg.prog W = .ok (.slice (some a) h cap) W := by
  subst hx
  rw [run_slice_h W t (some a) len cap (by rw [elem_of ht]; exact ht) .i64 h (by omega) (by omega), elem_of ht, size_5]
  simp [Result.andThen, sliced]
  intro h0
  unfold Addr.add; split <;> simp_all
theorem sl_l (t : TypeId) (ht : Edmg.prog.underlying t = some (.slice 5)) (g o len cap l : Nat) (x : Int) (hx : x = l) (hl : l ≤ len) (hc : l < cap) (W : World) :
    (Instr.slice t (.slice (some ⟨g, o, none⟩) len cap) (some (.int .i64 x)) none none).run Edmg.prog W = .ok (.slice (some ⟨g, o + l, none⟩) (len - l) (cap - l)) W := by
  subst hx
  rw [run_slice_l W t (some ⟨g, o, none⟩) len cap (by rw [elem_of ht]; exact ht) .i64 l (by omega) (by omega), elem_of ht, size_5]
  simp only [Result.andThen, sliced, Int.toNat_natCast, Nat.mul_one, Option.map_some, Addr.add_mid]
  rw [if_neg (by omega)]

theorem Pr.alloc {w : World} {B : Nat} {v : Value} {F : Fl} (h : Pr w B v F) (o : Obj) : Pr (w.alloc o) B v F := by
  have hlo := h.lo
  have hB := h.lt
  exact h.block (Below.heap_alloc w o B hB) (Below.heap_alloc w o 0 (by omega))
theorem Fill.pr {w0 wr : World} {B g c n k i : Nat} {bs : List UInt8} {F : Fl} {v : Value} (h : Fill w0 wr B g c n k i bs) (hP : Pr w0 B v F) (hgB : B < g) : Pr wr B v F := by
  have hlo := hP.lo
  have hB := hP.lt
  exact hP.block (h.grown.block B hB (fun e => by simp at e; omega)) (h.grown.block 0 (by omega) (fun e => by simp at e; omega))
/-- What the filled row gives, once its slice is stored. -/
theorem Fill.got {w0 wr : World} {B g c n k : Nat} {bs : List UInt8} {F : Fl} {v : Value} (h : Fill w0 wr B g c n k k bs) (hP : Pr w0 B v F) (hgB : B < g) :
    Got (wr.setCell ⟨B, 0, none⟩ (.slice (some ⟨g, 0, none⟩) (n + k) c)) B F (some ⟨g, 0, none⟩) (n + k) c (bs ++ List.replicate k 32) := by
  have hlo := hP.lo
  have hB := hP.lt
  exact ⟨(hP.block (h.grown.block B hB (fun e => by simp at e; omega)) (h.grown.block 0 (by omega) (fun e => by simp at e; omega))).put0 _,
    ownsRow_setCell_below h.done (by show B < B + 1; omega) _, by simp [h.len]⟩

set_option maxHeartbeats 800000 in
/-- The blanks do not fit: a new row. -/
theorem wpad_grow (w : World) (B : Nat) (F : Fl) (ao : Option Addr) (n c k : Nat) (bs : List UInt8) (hG : Got w B F ao n c bs) (hze : F.ze = false) (hk : 1 ≤ k) (hlen : n + k ≤ 200000) (hcap : c < n + k) :
    Calls Edmg.prog 20 #[.pointer (some ⟨B, 2, none⟩), .int .i64 k] w fun e w' => e = .returned (.tuple #[]) ∧
      ∃ ao' c', Got w' B F ao' (n + k) c' (bs ++ List.replicate k 32) ∧ Step w w' B (Value.ownBlock (.slice ao n c)) ∧ (∀ r, Value.ownBlock (.slice ao' (n + k) c') = some r → w.heap.size ≤ r) := by
  have c0 := hG.pr.c0
  have c2 := hG.pr.c2
  have c9 := hG.pr.c9
  rw [hze] at c9
  have mx := hG.pr.mx
  have fr := hG.pr.fr 0
  have HB : Hid (B < w.heap.size) := hG.pr.lt
  have hB : B < w.heap.size := hG.pr.lt
  have hnc := hG.le
  have hcp := run_copy_new w B 3 ao n c (c * 2 + k) bs hG.own hG.len (by omega)
  have hmk := run_make_bytes 37 Edmg.underlying37 w (c * 2 + k) ((c : Int) * 2 + (k : Int)) (by omega) (by omega)
  have hd1 : decide ((2147483647 : Int) < (n : Int) + (k : Int)) = false := by rw [decide_eq_false_iff_not]; omega
  go_enter Edmg.func20, Edmg.ntmps20
  go_wp2
  go_loopw [9, 56] (fun _ x wr => ∃ i : Nat, i ≤ k ∧ x = .int .i64 i ∧ Fill (w.alloc (.cells (cp (c * 2 + k) bs) 5)) wr B w.heap.size (c * 2 + k) n k i bs) (fun _ x _ => k - (intOf x).toNat)
  case atStart => exact ⟨0, Nat.zero_le _, rfl, Fill.start w B _ n k bs HB.out hG.len (by omega) (by omega)⟩
  case round =>
    obtain ⟨i, hi, rfl, hF⟩ := hrel
    by_cases hlt : i < k
    · obtain ⟨⟨x, hx⟩, hfz⟩ := hF.cell hlt
      go_wp2
      go_roundw
      case rel => exact ⟨i + 1, hlt, by go_num, hF.put hlt⟩
      case measure => simp [intOf]; omega
    · obtain rfl : k = i := by omega
      have hPr := hF.pr (hG.pr.alloc _) hB
      have k0 := hPr.c0
      have k2 := hPr.c2
      have kf := hPr.fr 0
      have hsl := sl_h 37 Edmg.underlying37 ⟨w.heap.size, 0, none⟩ (c * 2 + k) (c * 2 + k) (n + k) ((n : Int) + (k : Int)) (by omega) (by omega)
      go_wp2
      go_region
      go_wp2
      go_end0
      refine ⟨rfl, some ⟨w.heap.size, 0, none⟩, c * 2 + k, (hF.got (hG.pr.alloc _) hB).drew, ?_, ?_⟩
      · exact ((((Step.grown (World.grownBy_alloc w _ _) hB (row_ne hG.own)).trans (Step.grown hF.grown (by rw [World.size_alloc]; omega) (fun e => by simp at e; omega)) (Or.inr fun r hr => by simp at hr; omega))).put0 _).drew
      · intro r hr
        exact Nat.le_of_eq (Option.some.inj hr)

theorem Fill.inPlace {w : World} {B : Nat} {F : Fl} {ao : Option Addr} {n c : Nat} {bs : List UInt8} (hG : Got w B F ao n c bs) (k : Nat) (hk : 1 ≤ k) (hc : n + k ≤ c) :
    ∃ g, ao = some ⟨g, 0, none⟩ ∧ B < g ∧ g < w.heap.size ∧ Fill w w B g c n k 0 bs := by
  rcases hG.own.2 with ⟨hv, h0⟩ | ⟨g, cap, cur, hv, hb, hg, hnc, hcm, hcs, htake⟩
  · have : c = 0 := by simp at hv; exact hv.2.2
    omega
  · obtain ⟨rfl, rfl⟩ : ao = some ⟨g, 0, none⟩ ∧ c = cap := by simpa using hv
    have hlt : g < w.heap.size := (Array.getElem?_eq_some_iff.1 hg).1
    rw [Nat.mul_one] at hcs htake
    refine ⟨g, rfl, hb, hlt, ⟨(cur.toList.drop n).take k, ?_, Or.inr ⟨g, c, cur, rfl, hb, hg, hc, hcm, by omega, ?_⟩⟩, hG.len, ⟨rfl, rfl, rfl, Nat.le_refl _, fun _ _ _ => rfl⟩⟩
    · have := hG.len
      simp [vals_length]; omega
    · rw [Nat.mul_one, ← htake]
      simp [List.take_add]

set_option maxHeartbeats 800000 in
/-- The blanks fit into the row's spare cells. -/
theorem wpad_fit (w : World) (B : Nat) (F : Fl) (ao : Option Addr) (n c k : Nat) (bs : List UInt8) (hG : Got w B F ao n c bs) (hze : F.ze = false) (hk : 1 ≤ k) (hlen : n + k ≤ 200000) (hcap : n + k ≤ c) :
    Calls Edmg.prog 20 #[.pointer (some ⟨B, 2, none⟩), .int .i64 k] w fun e w' => e = .returned (.tuple #[]) ∧
      Got w' B F ao (n + k) c (bs ++ List.replicate k 32) ∧ Step w w' B (Value.ownBlock (.slice ao n c)) := by
  obtain ⟨g, rfl, hBg, hgw, hF0⟩ := Fill.inPlace hG k hk hcap
  have c0 := hG.pr.c0
  have c2 := hG.pr.c2
  have c9 := hG.pr.c9
  rw [hze] at c9
  have mx := hG.pr.mx
  have fr := hG.pr.fr 0
  have hB : B < w.heap.size := hG.pr.lt
  have hd1 : decide ((2147483647 : Int) < (n : Int) + (k : Int)) = false := by rw [decide_eq_false_iff_not]; omega
  have hd2 : decide ((c : Int) < (n : Int) + (k : Int)) = false := by rw [decide_eq_false_iff_not]; omega
  go_enter Edmg.func20, Edmg.ntmps20
  go_wp2
  go_loopw [9, 56] (fun _ x wr => ∃ i : Nat, i ≤ k ∧ x = .int .i64 i ∧ Fill w wr B g c n k i bs) (fun _ x _ => k - (intOf x).toNat)
  case atStart => exact ⟨0, Nat.zero_le _, rfl, hF0⟩
  case round =>
    obtain ⟨i, hi, rfl, hF⟩ := hrel
    by_cases hlt : i < k
    · obtain ⟨⟨x, hx⟩, hfz⟩ := hF.cell hlt
      go_wp2
      go_roundw
      case rel => exact ⟨i + 1, hlt, by go_num, hF.put hlt⟩
      case measure => simp [intOf]; omega
    · obtain rfl : k = i := by omega
      have hPr := hF.pr hG.pr hBg
      have k0 := hPr.c0
      have k2 := hPr.c2
      have kf := hPr.fr 0
      have hsl := sl_h 37 Edmg.underlying37 ⟨g, 0, none⟩ n c (n + k) ((n : Int) + (k : Int)) (by omega) (by omega)
      go_wp2
      go_region
      go_wp2
      go_end0
      refine ⟨rfl, (hF.got hG.pr hBg).drew, ?_⟩
      exact ((Step.grown hF.grown hB (fun e => by simp at e; omega)).put0 _).drew

/-- writePadding, whatever it is asked for. -/
theorem wpad_any (w : World) (B : Nat) (F : Fl) (ao : Option Addr) (n c : Nat) (x : Int) (bs : List UInt8) (hG : Got w B F ao n c bs) (hze : F.ze = false) (hlen : n + x.toNat ≤ 200000) :
    Calls Edmg.prog 20 #[.pointer (some ⟨B, 2, none⟩), .int .i64 x] w fun e w' => e = .returned (.tuple #[]) ∧
      ∃ ao' c', Got w' B F ao' (n + x.toNat) c' (bs ++ List.replicate x.toNat 32) ∧ Step w w' B (Value.ownBlock (.slice ao n c)) ∧
        (Value.ownBlock (.slice ao' (n + x.toNat) c') = Value.ownBlock (.slice ao n c) ∨ ∀ r, Value.ownBlock (.slice ao' (n + x.toNat) c') = some r → w.heap.size ≤ r) := by
  by_cases hx : x ≤ 0
  · refine (wpad_no w B x hx).mono ?_
    rintro e w' ⟨rfl, rfl⟩
    obtain e0 : x.toNat = 0 := by omega
    rw [e0]
    exact ⟨rfl, ao, c, by simpa using hG, Step.refl _ _ _, Or.inl rfl⟩
  · obtain ⟨k, rfl⟩ := Int.eq_ofNat_of_zero_le (show 0 ≤ x by omega)
    rw [Int.toNat_natCast] at hlen ⊢
    by_cases hc : n + k ≤ c
    · refine (wpad_fit w B F ao n c k bs hG hze (by omega) hlen hc).mono ?_
      rintro e w' ⟨rfl, h1, h2⟩
      refine ⟨rfl, ao, c, h1, h2, Or.inl ?_⟩
      cases ao <;> rfl
    · refine (wpad_grow w B F ao n c k bs hG hze (by omega) hlen (by omega)).mono ?_
      rintro e w' ⟨rfl, ao', c', h1, h2, h3⟩
      exact ⟨rfl, ao', c', h1, h2, Or.inr h3⟩

/-- The gathered text behind pad. -/
def padOut (mi : Bool) (p : Nat) (src : List UInt8) : List UInt8 := if mi then src ++ List.replicate p 32 else List.replicate p 32 ++ src

set_option maxHeartbeats 800000 in
theorem pad_plain (w : World) (B : Nat) (F : Fl) (D o cc : Nat) (src : List UInt8) (hG : Got w B F none 0 0 []) (hS : SrcAt w B none D o src) (hlen : src.length ≤ 100000) (hw : F.wp = false ∨ F.wid = 0) :
    Calls Edmg.prog 21 #[.pointer (some ⟨B, 2, none⟩), .slice (some ⟨D, o, none⟩) src.length cc] w fun e w' => e = .returned (.tuple #[]) ∧
      ∃ ao c, Got w' B F ao src.length c src ∧ Step w w' B none := by
  have c2 := hG.pr.c2
  have c3 := hG.pr.c3
  have c15 := hG.pr.c15
  have HG : Hid (Got w B F none 0 0 []) := hG
  have HS : Hid (SrcAt w B none D o src) := hS
  clear hG hS
  rcases hw with hw | hw
  · rw [hw] at c3
    go_enter Edmg.func21, Edmg.ntmps21
    go_wp2_with (go_at_call 22; refine (write_any _ B F none 0 0 [] D o cc src HG.out HS.out (by omega)).mono ?_; rintro e w' ⟨rfl, hx⟩)
    obtain ⟨ao', c', h1, h2, _⟩ := hx
    rw [Nat.zero_add] at h1
    exact bodyPost_ret (results_none Edmg.results21 _ _ _) rfl ⟨rfl, ao', c', h1, h2⟩
  · rw [hw] at c15
    cases hwp : F.wp
    all_goals
      rw [hwp] at c3
      go_enter Edmg.func21, Edmg.ntmps21
      go_wp2_with (go_at_call 22; refine (write_any _ B F none 0 0 [] D o cc src HG.out HS.out (by omega)).mono ?_; rintro e w' ⟨rfl, hx⟩)
      obtain ⟨ao', c', h1, h2, _⟩ := hx
      rw [Nat.zero_add] at h1
      exact bodyPost_ret (results_none Edmg.results21 _ _ _) rfl ⟨rfl, ao', c', h1, h2⟩

theorem runeCount' (w : World) (D o cc : Nat) (src : List UInt8) (h : Asc w D o src) (hl : src.length ≤ 500000) :
    Calls Edmg.prog 23 #[.slice (some ⟨D, o, none⟩) src.length cc] w fun e w' => e = .returned (.int .i64 src.length) ∧ w' = w :=
  (runeCount w D o cc src h hl).mono fun _ _ ⟨h1, h2⟩ => ⟨h1, h2.symm⟩

theorem Asc.drewN {w : World} {D o : Nat} {src : List UInt8} (h : Asc w D o src) (n : Nat) : Asc (w.drewN n) D o src := ⟨h.get, h.low⟩
theorem SrcAt.drewN {w : World} {B : Nat} {row : Option Nat} {D o : Nat} {src : List UInt8} (h : SrcAt w B row D o src) (n : Nat) : SrcAt (w.drewN n) B row D o src := ⟨h.get, h.apart⟩

set_option maxHeartbeats 800000 in
theorem pad_left (w : World) (B : Nat) (F : Fl) (D o cc : Nat) (src : List UInt8) (hG : Got w B F none 0 0 []) (hS : SrcAt w B none D o src) (hA : Asc w D o src) (hlen : src.length ≤ 100000) (hze : F.ze = false) (hwp : F.wp = true) (hmi : F.mi = false) (h1 : 1 ≤ F.wid) (h2 : F.wid ≤ 65536) :
    Calls Edmg.prog 21 #[.pointer (some ⟨B, 2, none⟩), .slice (some ⟨D, o, none⟩) src.length cc] w fun e w' => e = .returned (.tuple #[]) ∧
      ∃ ao n c, Got w' B F ao n c (List.replicate (F.wid - src.length).toNat 32 ++ src) ∧ Step w w' B none := by
  have c2 := hG.pr.c2
  have c3 := hG.pr.c3
  have c5 := hG.pr.c5
  have c15 := hG.pr.c15
  rw [hwp] at c3
  rw [hmi] at c5
  have HG : Hid (Got w B F none 0 0 []) := hG
  have HS : Hid (SrcAt w B none D o src) := hS
  have HA : Hid (Asc w D o src) := hA
  clear hG hS hA
  generalize hwid : F.wid = wid at *
  have hw0 : (wid == 0) = false := by rw [beq_eq_false_iff_ne]; omega
  clear hwid
  go_enter Edmg.func21, Edmg.ntmps21
  go_wp2
  go_quiet ((go_at_call 23; exact Calls.quiet_of_same (runeCount' _ D o cc src (by exact ⟨HA.out.get, HA.out.low⟩) (by omega))))
  go_wp2_with fail
  refine (wpad_any _ B F none 0 0 _ [] (HG.out.drewN nq) hze (by omega)).mono ?_
  rintro e w1 ⟨rfl, ao1, c1, g1, s1, o1⟩
  rw [Nat.zero_add, List.nil_append] at g1
  rw [Nat.zero_add] at o1
  have k2 := g1.pr.c2
  have s1' : Step w w1 B none := s1.ofDrewN
  have HS1 : Hid (SrcAt w1 B (Value.ownBlock (.slice ao1 (wid - (src.length : Int)).toNat c1)) D o src) := HS.out.step s1' (by
    rcases o1 with o1 | o1
    · exact Or.inl o1
    · exact Or.inr o1)
  have HG1 : Hid (Got w1 B F ao1 (wid - (src.length : Int)).toNat c1 (List.replicate (wid - (src.length : Int)).toNat 32)) := g1
  have HO1 : Hid (Value.ownBlock (.slice ao1 (wid - (src.length : Int)).toNat c1) = none ∨ ∀ r, Value.ownBlock (.slice ao1 (wid - (src.length : Int)).toNat c1) = some r → w.heap.size ≤ r) := o1
  clear g1 s1 o1
  go_wp2_with (go_at_call 22; refine (write_any _ B F ao1 _ c1 _ D o cc src HG1.out HS1.out (by omega)).mono ?_; rintro e w2 ⟨rfl, hx⟩)
  go_end0
  obtain ⟨ao2, c2', g2, s2, _⟩ := hx
  exact ⟨rfl, ao2, _, c2', g2, s1'.trans s2 HO1.out⟩

set_option maxHeartbeats 800000 in
theorem pad_right (w : World) (B : Nat) (F : Fl) (D o cc : Nat) (src : List UInt8) (hG : Got w B F none 0 0 []) (hS : SrcAt w B none D o src) (hA : Asc w D o src) (hlen : src.length ≤ 100000) (hze : F.ze = false) (hwp : F.wp = true) (hmi : F.mi = true) (h1 : 1 ≤ F.wid) (h2 : F.wid ≤ 65536) :
    Calls Edmg.prog 21 #[.pointer (some ⟨B, 2, none⟩), .slice (some ⟨D, o, none⟩) src.length cc] w fun e w' => e = .returned (.tuple #[]) ∧
      ∃ ao n c, Got w' B F ao n c (src ++ List.replicate (F.wid - src.length).toNat 32) ∧ Step w w' B none := by
  have c2 := hG.pr.c2
  have c3 := hG.pr.c3
  have c5 := hG.pr.c5
  have c15 := hG.pr.c15
  rw [hwp] at c3
  rw [hmi] at c5
  have HG : Hid (Got w B F none 0 0 []) := hG
  have HS : Hid (SrcAt w B none D o src) := hS
  have HA : Hid (Asc w D o src) := hA
  clear hG hS hA
  generalize hwid : F.wid = wid at *
  have hw0 : (wid == 0) = false := by rw [beq_eq_false_iff_ne]; omega
  clear hwid
  go_enter Edmg.func21, Edmg.ntmps21
  go_wp2
  go_quiet ((go_at_call 23; exact Calls.quiet_of_same (runeCount' _ D o cc src (by exact ⟨HA.out.get, HA.out.low⟩) (by omega))))
  go_wp2_with fail
  refine (write_any _ B F none 0 0 [] D o cc src (HG.out.drewN nq) (HS.out.drewN nq) (by omega)).mono ?_
  rintro e w1 ⟨rfl, ao1, c1, g1, s1, o1⟩
  rw [Nat.zero_add, List.nil_append] at g1
  rw [Nat.zero_add] at o1
  have s1' : Step w w1 B none := s1.ofDrewN
  have HG1 : Hid (Got w1 B F ao1 src.length c1 src) := g1
  have HO1 : Hid (Value.ownBlock (.slice ao1 src.length c1) = none ∨ ∀ r, Value.ownBlock (.slice ao1 src.length c1) = some r → w.heap.size ≤ r) := o1
  clear g1 s1 o1
  go_wp2_with (go_at_call 20; refine (wpad_any _ B F ao1 _ c1 _ src HG1.out hze (by omega)).mono ?_; rintro e w2 ⟨rfl, hx⟩)
  go_end0
  obtain ⟨ao2, c2', g2, s2, _⟩ := hx
  exact ⟨rfl, ao2, _, c2', g2, s1'.trans s2 HO1.out⟩

end Go.Proofs.YoedmwDoor
