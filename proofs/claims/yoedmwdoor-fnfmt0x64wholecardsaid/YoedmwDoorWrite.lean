/-
  THE WALK of (*fmtbuf).Write: bytes appended to what the printer has gathered.
-/
import Derived.Test.YoedmwDoorSmall
namespace Go.Proofs.YoedmwDoor
open Go.RowKit

theorem Edmg.info5 : (Edmg.prog.info? 5).map (fun i => (i.zero, i.size, i.bytes)) = some (some (.int .u8 0), 1, 1) := by kernel_rfl

/-- The source's type does not matter to append where both are slices. -/
theorem run_append_types (ty : TypeId) (ao : Option Addr) (n c : Nat) (x : Value) (w : World) : (Builtin.append_ #[37, 36] ty #[.slice ao n c, x]).run Edmg.prog w = (Builtin.append_ #[37, 37] ty #[.slice ao n c, x]).run Edmg.prog w := by
  obtain ⟨i0, hi, hz0, hz1, hz2⟩ := info_parts Edmg.info5
  simp [Builtin.append_, run_underlying Edmg.underlying37, run_underlying Edmg.underlying36, sizeOf, typeInfo, hi]

/-- 'append(*b, p...)' at types 37 and 36. -/
theorem wpList_append_mix {w : World} {ops : Array Oper} {rest : List Oper} {o : Oper} {a : Act} {Q : Exit → Act → World → Prop} (hgd : o.guard = none) (s x : Operand)
    (ho : o.op = .call { callee := .builtin .append, args := #[s, x], argTypes := #[37, 36] })
    (base : Nat) (v : Value) (n : Nat) (xs : List Value) (hs : a.eval s = v) (hown : w.ownsRow base 5 1 v n xs)
    (ad : Addr) (m c : Nat) (news : List Value) (hx : a.eval x = .slice (some ad) m c) (hl : news.length = m) (hnews : ∀ j u, news[j]? = some u → w.cell? (ad.add j) = some u) (h1 : ∀ u ∈ news, u.oneCell' = true)
    (hbytes : n + m ≤ 1000000) (hbase : base ≤ w.heap.size)
    (h : ∀ v' w', w'.ownsRow base 5 1 v' (n + m) (xs ++ news) → w.grownBy w' v.ownBlock → (v' = .slice none 0 0 ↔ v = .slice none 0 0 ∧ m = 0) → (v'.ownBlock = v.ownBlock ∨ v'.ownBlock = some w.heap.size) → wpList Edmg.prog ops Q rest (a.put o.dst v') w') :
    wpList Edmg.prog ops Q (o :: rest) a w := by
  obtain ⟨i0, hi, hz0, hz1, hz2⟩ := info_parts Edmg.info5
  refine wpList_plain hgd fun K hK => ?_
  obtain ⟨v', w', hr, h2, h3, h4, h5⟩ := run_append_own_at (P := Edmg.prog) w base 37 o.type 5 i0 (.int .u8 0) 1 1 Edmg.underlying37 hi hz0 hz1 hz2 rfl (by decide) v n xs hown ad m c news (by omega) hnews h1 (by unfold maxLen; omega) (by omega) hbase
  obtain ⟨ao, cc, rfl⟩ : ∃ ao cc, v = .slice ao n cc := by
    rcases hown.2 with ⟨rfl, rfl⟩ | ⟨g, cap, cur, rfl, _⟩
    · exact ⟨_, _, rfl⟩
    · exact ⟨_, _, rfl⟩
  rw [← run_append_types] at hr
  unfold Oper.wp execOp
  simp only [ho, resolve, invoke, builtin, Sem.run_bind, Sem.run_pure, Result.andThen_ok, List.map_toArray, List.map_cons, List.map_nil, hs, hx, hr]
  exact hK _ _ (h v' w' h2 h3 h4 h5)

theorem row_ne {w : World} {B : Nat} {v : Value} {n : Nat} {xs : List Value} (h : w.ownsRow (B + 1) 5 1 v n xs) : some B ≠ v.ownBlock := fun e => by
  have := (h.lt B e.symm).1
  omega

/-- The gathered bytes, as a value and in memory. -/
structure Got (w : World) (B : Nat) (F : Fl) (ao : Option Addr) (n c : Nat) (bs : List UInt8) : Prop where
  pr : Pr w B (.slice ao n c) F
  own : w.ownsRow (B + 1) 5 1 (.slice ao n c) n (vals bs)
  len : bs.length = n

theorem Got.drewN {w : World} {B : Nat} {F : Fl} {ao : Option Addr} {n c : Nat} {bs : List UInt8} (h : Got w B F ao n c bs) (k : Nat) : Got (w.drewN k) B F ao n c bs := ⟨h.pr.drewN k, h.own, h.len⟩

theorem Got.drew {w : World} {B : Nat} {F : Fl} {ao : Option Addr} {n c : Nat} {bs : List UInt8} (h : Got w B F ao n c bs) : Got w.drew B F ao n c bs := ⟨h.pr.drew, h.own, h.len⟩
theorem got_after {w w1 : World} {B : Nat} {F : Fl} {ao : Option Addr} {n c : Nat} {bs src : List UInt8} {v' : Value} (hG : Got w B F ao n c bs)
    (hown : w1.ownsRow (B + 1) 5 1 v' (n + src.length) (vals bs ++ vals src)) (hg : w.grownBy w1 (Value.ownBlock (.slice ao n c))) :
    ∃ ao' c', v' = .slice ao' (n + src.length) c' ∧ Got (w1.setCell ⟨B, 0, none⟩ (.slice ao' (n + src.length) c')) B F ao' (n + src.length) c' (bs ++ src) := by
  obtain ⟨ao', c', rfl⟩ : ∃ ao' c', v' = .slice ao' (n + src.length) c' := by
    rcases hown.2 with ⟨rfl, e⟩ | ⟨g, cap, cur, rfl, _⟩
    · exact ⟨_, 0, by rw [e]⟩
    · exact ⟨_, _, rfl⟩
  refine ⟨ao', c', rfl, ?_, ?_, by rw [List.length_append, hG.len]⟩
  · have hB := hG.pr.lt
    have hlo := hG.pr.lo
    have hne := row_ne hG.own
    exact (hG.pr.block (hg.block B hB hne) (hg.block 0 (by omega) (fun e => by have := (hG.own.lt 0 e.symm).1; omega))).put0 _
  · rw [vals_append]
    exact ownsRow_setCell_below hown (by show B < B + 1; omega) _

theorem src_news {w : World} {B : Nat} {row : Option Nat} {D o : Nat} {src : List UInt8} (h : SrcAt w B row D o src) : ∀ j u, (vals src)[j]? = some u → w.cell? ((⟨D, o, none⟩ : Addr).add j) = some u := fun j u hj => by
  have hl : j < src.length := by
    have := (List.getElem?_eq_some_iff.1 hj).1
    rwa [vals_length] at this
  rw [Addr.add_mid, h.get j hl, ← hj, vals_get src j hl]

set_option maxHeartbeats 800000 in
theorem write_any (w : World) (B : Nat) (F : Fl) (ao : Option Addr) (n c : Nat) (bs : List UInt8) (D o cc : Nat) (src : List UInt8)
    (hG : Got w B F ao n c bs) (hS : SrcAt w B (Value.ownBlock (.slice ao n c)) D o src) (hlen : n + src.length ≤ 500000) :
    Calls Edmg.prog 22 #[.pointer (some ⟨B, 0, none⟩), .slice (some ⟨D, o, none⟩) src.length cc] w fun e w' => e = .returned (.tuple #[]) ∧
      ∃ ao' c', Got w' B F ao' (n + src.length) c' (bs ++ src) ∧ Step w w' B (Value.ownBlock (.slice ao n c)) ∧ (Value.ownBlock (.slice ao' (n + src.length) c') = Value.ownBlock (.slice ao n c) ∨ ∀ r, Value.ownBlock (.slice ao' (n + src.length) c') = some r → w.heap.size ≤ r) := by
  have c0 := hG.pr.c0
  have mx := hG.pr.mx
  have fr := hG.pr.fr 0
  have HB : Hid (B < w.heap.size) := hG.pr.lt
  have HN : Hid (∀ j u, (vals src)[j]? = some u → w.cell? ((⟨D, o, none⟩ : Addr).add j) = some u) := src_news hS
  go_enter Edmg.func22, Edmg.ntmps22
  go_wp2
  go_quiet (fail)
  go_wp2_with (first | (at_builtin; refine wpList_append_mix (by rfl) (.tmp 17) (.tmp 18) (by rfl) (B + 1) (.slice ao n c) n (vals bs) (by rfl) (by exact hG.own) ⟨D, o, none⟩ src.length cc (vals src) (by rfl) (vals_length _) (by exact HN) (vals_one _) (by omega) (by exact hG.pr.lt) ?_; intro v' w1 hown1 hgrow hnil hat; obtain ⟨ao', c', hv, hgot⟩ := got_after (hG.drewN nq) hown1 hgrow; rw [hv]; rw [hv] at hat; clear hown1 hnil hv; have k0 : w1.cell? ⟨B, 0, none⟩ = some (.slice ao n c) := (World.cell?_of_block (a := ⟨B, 0, none⟩) (hgrow.block B HB.out (row_ne hG.own))).trans c0; have kf : w1.frozen? ⟨B, 0, none⟩ = false := (World.frozen?_of_block (a := ⟨B, 0, none⟩) (hgrow.block B HB.out (row_ne hG.own))).trans fr))
  go_end0
  refine ⟨rfl, ao', c', hgot, ((Step.grown hgrow HB.out (row_ne hG.own)).put0 _).ofDrewN, ?_⟩
  rcases hat with hat | hat
  · exact Or.inl hat
  · refine Or.inr fun r hr => ?_
    rw [hat] at hr
    exact Nat.le_of_eq (Option.some.inj hr)

end Go.Proofs.YoedmwDoor
