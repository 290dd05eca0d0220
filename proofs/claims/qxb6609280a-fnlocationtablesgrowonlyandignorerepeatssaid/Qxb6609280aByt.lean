import Derived.Test.Qxb6609280aMem
namespace Go.Proofs.Qxb6609280a
open Go.RowKit

/-- block g reads the bytes d -/
structure Src (w : World) (g : Nat) (d : List UInt8) : Prop where
  lt : g < w.heap.size
  cell : ∀ j u, (Lib.byteCells d)[j]? = some u → w.cell? ((⟨g, 0, none⟩ : Addr).add j) = some u

theorem cell_add (w : World) (g j : Nat) : w.cell? ((⟨g, 0, none⟩ : Addr).add j) = w.cell? ⟨g, j, none⟩ := by
  unfold Addr.add; split <;> simp_all

theorem cell_heap {w w' : World} {g j : Nat} (h : w'.heap[g]? = w.heap[g]?) : w'.cell? ⟨g, j, none⟩ = w.cell? ⟨g, j, none⟩ := by
  simp [World.cell?, h]

theorem Src.same {w w' : World} {g : Nat} {d : List UInt8} (h : Src w g d) (hs : w.heap.size ≤ w'.heap.size) (hb : w'.heap[g]? = w.heap[g]?) : Src w' g d :=
  ⟨Nat.lt_of_lt_of_le h.lt hs, fun j u hj => by rw [cell_add, cell_heap hb, ← cell_add]; exact h.cell j u hj⟩

theorem Src.grown {w w' : World} {g : Nat} {d : List UInt8} {r : Option Nat} (h : Src w g d) (hg : w.grownBy w' r) (hne : r = none ∨ some g ≠ r) : Src w' g d :=
  h.same hg.size (hg.block g h.lt (by rcases hne with rfl | h <;> simp_all))

theorem bytes_oneCell (d : List UInt8) : ∀ u ∈ Lib.byteCells d, u.oneCell' = true := by
  intro u hu
  simp only [Lib.byteCells, List.mem_map] at hu
  obtain ⟨_, _, rfl⟩ := hu
  rfl

theorem byteCells_append (a b : List UInt8) : Lib.byteCells (a ++ b) = Lib.byteCells a ++ Lib.byteCells b := by simp [Lib.byteCells]

/-- a slice that is not empty is a source -/
theorem Row.src {w : World} {v : Value} {d : List UInt8} (h : Row w v d) (hd : d ≠ []) : ∃ g c, v = .slice (some ⟨g, 0, none⟩) d.length c ∧ v.ownBlock = some g ∧ Src w g d := by
  have h2 := h.2
  rcases h2 with ⟨rfl, h0⟩ | ⟨g, cap, cur, rfl, _, hg, _⟩
  · exact absurd (List.eq_nil_of_length_eq_zero h0) hd
  · exact ⟨g, cap, rfl, rfl, (Array.getElem?_eq_some_iff.1 hg).1, h.cells rfl⟩

set_option maxHeartbeats 8000000 in
set_option maxRecDepth 100000 in
theorem appendBytes27 (f : Nat) (hf : Small f) (d : List UInt8) (g c : Nat) (v : Value) (bs : List UInt8) (w : World) (hown : Row w v bs) (hsrc : Src w g d) (hne : some g ≠ v.ownBlock) (hlim : bs.length + d.length + 20 ≤ 140737488355328) :
    Calls Try.prog 27 #[v, .int .i64 f, .slice (some ⟨g, 0, none⟩) d.length c] w fun e w' => AppTo w v (ab f d bs) e w' := by
  obtain ⟨i0, hi, hz0, hz1, hz2⟩ := info_parts Try.info5
  unfold ab
  rcases hf with rfl | rfl | rfl | rfl | rfl | rfl
  · have c1 := uvarint28 10 (by decide) v bs w hown (by omega)
    have hl := Lib.uvarint_length64 (x := 10) (by decide)
    have hl2 := Lib.uvarint_length64 (x := d.length) (by omega)
    go_enter Try.func27, Try.ntmps27
    go_wp2_with fail
    refine c1.mono ?_
    rintro e w1 ⟨v1, rfl, hA⟩
    have c2 := uvarint28 d.length (by omega) v1 _ w1 hA.row (by rw [List.length_append]; omega)
    clear c1
    go_wp2_with fail
    refine c2.mono ?_
    rintro e w2 ⟨v2, rfl, hA2⟩
    have hA3 := hA.trans hA2
    have hs2 := hsrc.grown hA3.grown (.inr hne)
    have hro := hA3.row
    have hln : (bs ++ Lib.uvarint 10 ++ Lib.uvarint d.length).length ≤ bs.length + 20 := by rw [List.length_append, List.length_append]; omega
    clear hA hA2 c2
    go_wp2_with (at_builtin; refine wpList_append_own_at _ rfl _ _ 36 rfl 0 5 i0 (.int .u8 0) 1 1 Try.underlying36 hi hz0 hz1 hz2 rfl (by decide) _ _ _ rfl hro ⟨g, 0, none⟩ d.length c (Lib.byteCells d) rfl (by simp [Lib.byteCells]) hs2.cell (bytes_oneCell d) (by unfold maxLen; omega) (by omega) (Nat.zero_le _) ?_)
    intro v' w3 hown' hgrow _ hloc
    have hA4 : App w2 v2 w3 v' (bs ++ Lib.uvarint 10 ++ Lib.uvarint d.length ++ d) := by
      refine ⟨?_, hgrow, hloc.imp id (fun h => ⟨_, h, Nat.le_refl _⟩)⟩
      show World.ownsRow _ _ _ _ _ _ _
      rw [byteCells_append, List.length_append]
      simpa [Nat.add_assoc] using hown'
    have hA5 := hA3.trans hA4
    clear hA3 hA4 hs2 hro hown' hgrow hloc
    go_wp2
    go_ret
    exact AppTo.mk hA5
  · have c1 := uvarint28 18 (by decide) v bs w hown (by omega)
    have hl := Lib.uvarint_length64 (x := 18) (by decide)
    have hl2 := Lib.uvarint_length64 (x := d.length) (by omega)
    go_enter Try.func27, Try.ntmps27
    go_wp2_with fail
    refine c1.mono ?_
    rintro e w1 ⟨v1, rfl, hA⟩
    have c2 := uvarint28 d.length (by omega) v1 _ w1 hA.row (by rw [List.length_append]; omega)
    clear c1
    go_wp2_with fail
    refine c2.mono ?_
    rintro e w2 ⟨v2, rfl, hA2⟩
    have hA3 := hA.trans hA2
    have hs2 := hsrc.grown hA3.grown (.inr hne)
    have hro := hA3.row
    have hln : (bs ++ Lib.uvarint 18 ++ Lib.uvarint d.length).length ≤ bs.length + 20 := by rw [List.length_append, List.length_append]; omega
    clear hA hA2 c2
    go_wp2_with (at_builtin; refine wpList_append_own_at _ rfl _ _ 36 rfl 0 5 i0 (.int .u8 0) 1 1 Try.underlying36 hi hz0 hz1 hz2 rfl (by decide) _ _ _ rfl hro ⟨g, 0, none⟩ d.length c (Lib.byteCells d) rfl (by simp [Lib.byteCells]) hs2.cell (bytes_oneCell d) (by unfold maxLen; omega) (by omega) (Nat.zero_le _) ?_)
    intro v' w3 hown' hgrow _ hloc
    have hA4 : App w2 v2 w3 v' (bs ++ Lib.uvarint 18 ++ Lib.uvarint d.length ++ d) := by
      refine ⟨?_, hgrow, hloc.imp id (fun h => ⟨_, h, Nat.le_refl _⟩)⟩
      show World.ownsRow _ _ _ _ _ _ _
      rw [byteCells_append, List.length_append]
      simpa [Nat.add_assoc] using hown'
    have hA5 := hA3.trans hA4
    clear hA3 hA4 hs2 hro hown' hgrow hloc
    go_wp2
    go_ret
    exact AppTo.mk hA5
  · have c1 := uvarint28 26 (by decide) v bs w hown (by omega)
    have hl := Lib.uvarint_length64 (x := 26) (by decide)
    have hl2 := Lib.uvarint_length64 (x := d.length) (by omega)
    go_enter Try.func27, Try.ntmps27
    go_wp2_with fail
    refine c1.mono ?_
    rintro e w1 ⟨v1, rfl, hA⟩
    have c2 := uvarint28 d.length (by omega) v1 _ w1 hA.row (by rw [List.length_append]; omega)
    clear c1
    go_wp2_with fail
    refine c2.mono ?_
    rintro e w2 ⟨v2, rfl, hA2⟩
    have hA3 := hA.trans hA2
    have hs2 := hsrc.grown hA3.grown (.inr hne)
    have hro := hA3.row
    have hln : (bs ++ Lib.uvarint 26 ++ Lib.uvarint d.length).length ≤ bs.length + 20 := by rw [List.length_append, List.length_append]; omega
    clear hA hA2 c2
    go_wp2_with (at_builtin; refine wpList_append_own_at _ rfl _ _ 36 rfl 0 5 i0 (.int .u8 0) 1 1 Try.underlying36 hi hz0 hz1 hz2 rfl (by decide) _ _ _ rfl hro ⟨g, 0, none⟩ d.length c (Lib.byteCells d) rfl (by simp [Lib.byteCells]) hs2.cell (bytes_oneCell d) (by unfold maxLen; omega) (by omega) (Nat.zero_le _) ?_)
    intro v' w3 hown' hgrow _ hloc
    have hA4 : App w2 v2 w3 v' (bs ++ Lib.uvarint 26 ++ Lib.uvarint d.length ++ d) := by
      refine ⟨?_, hgrow, hloc.imp id (fun h => ⟨_, h, Nat.le_refl _⟩)⟩
      show World.ownsRow _ _ _ _ _ _ _
      rw [byteCells_append, List.length_append]
      simpa [Nat.add_assoc] using hown'
    have hA5 := hA3.trans hA4
    clear hA3 hA4 hs2 hro hown' hgrow hloc
    go_wp2
    go_ret
    exact AppTo.mk hA5
  · have c1 := uvarint28 34 (by decide) v bs w hown (by omega)
    have hl := Lib.uvarint_length64 (x := 34) (by decide)
    have hl2 := Lib.uvarint_length64 (x := d.length) (by omega)
    go_enter Try.func27, Try.ntmps27
    go_wp2_with fail
    refine c1.mono ?_
    rintro e w1 ⟨v1, rfl, hA⟩
    have c2 := uvarint28 d.length (by omega) v1 _ w1 hA.row (by rw [List.length_append]; omega)
    clear c1
    go_wp2_with fail
    refine c2.mono ?_
    rintro e w2 ⟨v2, rfl, hA2⟩
    have hA3 := hA.trans hA2
    have hs2 := hsrc.grown hA3.grown (.inr hne)
    have hro := hA3.row
    have hln : (bs ++ Lib.uvarint 34 ++ Lib.uvarint d.length).length ≤ bs.length + 20 := by rw [List.length_append, List.length_append]; omega
    clear hA hA2 c2
    go_wp2_with (at_builtin; refine wpList_append_own_at _ rfl _ _ 36 rfl 0 5 i0 (.int .u8 0) 1 1 Try.underlying36 hi hz0 hz1 hz2 rfl (by decide) _ _ _ rfl hro ⟨g, 0, none⟩ d.length c (Lib.byteCells d) rfl (by simp [Lib.byteCells]) hs2.cell (bytes_oneCell d) (by unfold maxLen; omega) (by omega) (Nat.zero_le _) ?_)
    intro v' w3 hown' hgrow _ hloc
    have hA4 : App w2 v2 w3 v' (bs ++ Lib.uvarint 34 ++ Lib.uvarint d.length ++ d) := by
      refine ⟨?_, hgrow, hloc.imp id (fun h => ⟨_, h, Nat.le_refl _⟩)⟩
      show World.ownsRow _ _ _ _ _ _ _
      rw [byteCells_append, List.length_append]
      simpa [Nat.add_assoc] using hown'
    have hA5 := hA3.trans hA4
    clear hA3 hA4 hs2 hro hown' hgrow hloc
    go_wp2
    go_ret
    exact AppTo.mk hA5
  · have c1 := uvarint28 42 (by decide) v bs w hown (by omega)
    have hl := Lib.uvarint_length64 (x := 42) (by decide)
    have hl2 := Lib.uvarint_length64 (x := d.length) (by omega)
    go_enter Try.func27, Try.ntmps27
    go_wp2_with fail
    refine c1.mono ?_
    rintro e w1 ⟨v1, rfl, hA⟩
    have c2 := uvarint28 d.length (by omega) v1 _ w1 hA.row (by rw [List.length_append]; omega)
    clear c1
    go_wp2_with fail
    refine c2.mono ?_
    rintro e w2 ⟨v2, rfl, hA2⟩
    have hA3 := hA.trans hA2
    have hs2 := hsrc.grown hA3.grown (.inr hne)
    have hro := hA3.row
    have hln : (bs ++ Lib.uvarint 42 ++ Lib.uvarint d.length).length ≤ bs.length + 20 := by rw [List.length_append, List.length_append]; omega
    clear hA hA2 c2
    go_wp2_with (at_builtin; refine wpList_append_own_at _ rfl _ _ 36 rfl 0 5 i0 (.int .u8 0) 1 1 Try.underlying36 hi hz0 hz1 hz2 rfl (by decide) _ _ _ rfl hro ⟨g, 0, none⟩ d.length c (Lib.byteCells d) rfl (by simp [Lib.byteCells]) hs2.cell (bytes_oneCell d) (by unfold maxLen; omega) (by omega) (Nat.zero_le _) ?_)
    intro v' w3 hown' hgrow _ hloc
    have hA4 : App w2 v2 w3 v' (bs ++ Lib.uvarint 42 ++ Lib.uvarint d.length ++ d) := by
      refine ⟨?_, hgrow, hloc.imp id (fun h => ⟨_, h, Nat.le_refl _⟩)⟩
      show World.ownsRow _ _ _ _ _ _ _
      rw [byteCells_append, List.length_append]
      simpa [Nat.add_assoc] using hown'
    have hA5 := hA3.trans hA4
    clear hA3 hA4 hs2 hro hown' hgrow hloc
    go_wp2
    go_ret
    exact AppTo.mk hA5
  · have c1 := uvarint28 50 (by decide) v bs w hown (by omega)
    have hl := Lib.uvarint_length64 (x := 50) (by decide)
    have hl2 := Lib.uvarint_length64 (x := d.length) (by omega)
    go_enter Try.func27, Try.ntmps27
    go_wp2_with fail
    refine c1.mono ?_
    rintro e w1 ⟨v1, rfl, hA⟩
    have c2 := uvarint28 d.length (by omega) v1 _ w1 hA.row (by rw [List.length_append]; omega)
    clear c1
    go_wp2_with fail
    refine c2.mono ?_
    rintro e w2 ⟨v2, rfl, hA2⟩
    have hA3 := hA.trans hA2
    have hs2 := hsrc.grown hA3.grown (.inr hne)
    have hro := hA3.row
    have hln : (bs ++ Lib.uvarint 50 ++ Lib.uvarint d.length).length ≤ bs.length + 20 := by rw [List.length_append, List.length_append]; omega
    clear hA hA2 c2
    go_wp2_with (at_builtin; refine wpList_append_own_at _ rfl _ _ 36 rfl 0 5 i0 (.int .u8 0) 1 1 Try.underlying36 hi hz0 hz1 hz2 rfl (by decide) _ _ _ rfl hro ⟨g, 0, none⟩ d.length c (Lib.byteCells d) rfl (by simp [Lib.byteCells]) hs2.cell (bytes_oneCell d) (by unfold maxLen; omega) (by omega) (Nat.zero_le _) ?_)
    intro v' w3 hown' hgrow _ hloc
    have hA4 : App w2 v2 w3 v' (bs ++ Lib.uvarint 50 ++ Lib.uvarint d.length ++ d) := by
      refine ⟨?_, hgrow, hloc.imp id (fun h => ⟨_, h, Nat.le_refl _⟩)⟩
      show World.ownsRow _ _ _ _ _ _ _
      rw [byteCells_append, List.length_append]
      simpa [Nat.add_assoc] using hown'
    have hA5 := hA3.trans hA4
    clear hA3 hA4 hs2 hro hown' hgrow hloc
    go_wp2
    go_ret
    exact AppTo.mk hA5

end Go.Proofs.Qxb6609280a
