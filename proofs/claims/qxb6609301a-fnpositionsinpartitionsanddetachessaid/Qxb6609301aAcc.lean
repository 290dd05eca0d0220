import Derived.Test.Qxb6609301aRun
import Derived.Deep.AppendLies
namespace Go.Proofs.Qxb6609301a
open Go.RowKit

theorem new_block (w : World) (o : Obj) : (w.alloc o).heap[w.heap.size]? = some o := by
  show (w.heap.push o)[w.heap.size]? = some o
  simp

structure AccS (w wr : World) (S G : Nat → ByteArray) (k : Nat) (v : Value) (P : Nat → Nat) : Prop where
  below : Below w.heap.size w wr
  acc : ∃ ca, wr.heap[w.heap.size]? = some (.cells ca 37 (0, 0)) ∧ ca[4]? = some v
  own : wr.ownsRow (w.heap.size + 1) 30 1 v k ((List.range k).map fun i => .pointer (some ⟨P i, 0, none⟩))
  pos : ∀ i, i < k → PosAt wr (P i) (S i) (G i)

theorem AccS.cell {w wr : World} {S G : Nat → ByteArray} {k : Nat} {v : Value} {P : Nat → Nat} (h : AccS w wr S G k v P) : wr.cell? ⟨w.heap.size, 4, none⟩ = some v ∧ wr.frozen? ⟨w.heap.size, 4, none⟩ = false := by
  obtain ⟨ca, h1, h2⟩ := h.acc
  exact ⟨by simp [World.cell?, h1, h2], by simp [World.frozen?, h1]⟩

theorem acc_start (w : World) (S G : Nat → ByteArray) (P : Nat → Nat) (x0 x1 x2 x3 x5 x6 x7 : Value) : AccS w (w.alloc (.cells #[x0, x1, x2, x3, .slice none 0 0, x5, x6, x7] 37)) S G 0 (.slice none 0 0) P where
  below := (Below.refl _ _).alloc (Nat.le_refl _) _
  acc := ⟨_, new_block _ _, rfl⟩
  own := ⟨by simp, .inl ⟨rfl, by simp⟩⟩
  pos := fun i hi => absurd hi (Nat.not_lt_zero _)

/-- what the region holds: the symbol, the leg, the memory that came in -/
theorem sOf {w W : World} {sb so lb lo : Nat} {x y : Value} (h1 : w.cell? ⟨sb, so, none⟩ = some x) (h2 : w.cell? ⟨lb, lo, none⟩ = some y) (hb : Below w.heap.size w W) :
    W.cell? ⟨sb, so, none⟩ = some x ∧ W.cell? ⟨lb, lo, none⟩ = some y ∧ Below w.heap.size w W :=
  ⟨by rw [hb.cell (p := ⟨sb, so, none⟩) (World.block_lt_of_cell? _ _ h1)]; exact h1, by rw [hb.cell (p := ⟨lb, lo, none⟩) (World.block_lt_of_cell? _ _ h2)]; exact h2, hb⟩

/-- behind the new position and the row of one, ahead of the append -/
structure Leaf (w W : World) (S G : Nat → ByteArray) (k : Nat) (v : Value) (P : Nat → Nat) (p r : Nat) : Prop where
  below : Below w.heap.size w W
  acc : ∃ ca, W.heap[w.heap.size]? = some (.cells ca 37 (0, 0)) ∧ ca[4]? = some v
  own : W.ownsRow (w.heap.size + 1) 30 1 v k ((List.range k).map fun i => .pointer (some ⟨P i, 0, none⟩))
  pos : ∀ i, i < k → PosAt W (P i) (S i) (G i)
  new : PosAt W p (S k) (G k)
  row : W.heap[r]? = some (.cells #[.pointer (some ⟨p, 0, none⟩)] 30 (0, 0))

theorem ownsRow_heap {w w' : World} {base : Nat} {e : TypeId} {size : Nat} {v : Value} {n : Nat} {xs : List Value} (h : w.ownsRow base e size v n xs) (hb : ∀ k, k < w.heap.size → w'.heap[k]? = w.heap[k]?) : w'.ownsRow base e size v n xs := by
  obtain ⟨hl, h⟩ := h
  refine ⟨hl, ?_⟩
  rcases h with h | ⟨g, cap, cur, rfl, hg, hh, hr⟩
  · exact .inl h
  · have hlt : g < w.heap.size := by obtain ⟨hl, _⟩ := Array.getElem?_eq_some_iff.1 hh; exact hl
    exact .inr ⟨g, cap, cur, rfl, hg, by rw [hb g hlt]; exact hh, hr⟩

theorem leaf_base {w wr W : World} {S G : Nat → ByteArray} {k : Nat} {v : Value} {P : Nat → Nat} {p r : Nat} (hac : AccS w wr S G k v P) (hb : Below wr.heap.size wr W) (hn : PosAt W p (S k) (G k)) (hr : W.heap[r]? = some (.cells #[.pointer (some ⟨p, 0, none⟩)] 30 (0, 0))) : Leaf w W S G k v P p r := by
  have hz : w.heap.size < wr.heap.size := World.block_lt_of_cell? _ _ hac.cell.1
  obtain ⟨ca, h1, h2⟩ := hac.acc
  exact ⟨hac.below.trans (hb.mono (Nat.le_of_lt hz)), ⟨ca, by rw [hb.block _ hz]; exact h1, h2⟩, ownsRow_heap hac.own fun k hk => hb.block k hk, fun i hi => (hac.pos i hi).below hb (Nat.le_refl _), hn, hr⟩

theorem b4 (wr : World) (o1 o2 o3 o4 : Obj) : Below wr.heap.size wr ((((wr.alloc o1).alloc o2).alloc o3).alloc o4).drew :=
  (((((Below.refl _ _).alloc (Nat.le_refl _) _).alloc (by simp only [World.size_alloc]; omega) _).alloc (by simp only [World.size_alloc]; omega) _).alloc (by simp only [World.size_alloc]; omega) _).drew

theorem heap_at0 (wr : World) (o1 o2 o3 o4 : Obj) : ((((wr.alloc o1).alloc o2).alloc o3).alloc o4).drew.heap[wr.heap.size]? = some o1 := by
  show ((((wr.alloc o1).alloc o2).alloc o3).alloc o4).heap[wr.heap.size]? = some o1
  rw [Below.heap_alloc _ _ _ (by simp only [World.size_alloc]; omega), Below.heap_alloc _ _ _ (by simp only [World.size_alloc]; omega), Below.heap_alloc _ _ _ (by simp)]
  exact new_block _ _
theorem heap_at1 (wr : World) (o1 o2 o3 o4 : Obj) : ((((wr.alloc o1).alloc o2).alloc o3).alloc o4).drew.heap[wr.heap.size + 1]? = some o2 := by
  show ((((wr.alloc o1).alloc o2).alloc o3).alloc o4).heap[wr.heap.size + 1]? = some o2
  rw [Below.heap_alloc _ _ _ (by simp only [World.size_alloc]; omega), Below.heap_alloc _ _ _ (by simp)]
  have := new_block (wr.alloc o1) o2
  rwa [World.size_alloc] at this
theorem heap_at2 (wr : World) (o1 o2 o3 o4 : Obj) : ((((wr.alloc o1).alloc o2).alloc o3).alloc o4).drew.heap[wr.heap.size + 1 + 1]? = some o3 := by
  show ((((wr.alloc o1).alloc o2).alloc o3).alloc o4).heap[wr.heap.size + 1 + 1]? = some o3
  rw [Below.heap_alloc _ _ _ (by simp)]
  have := new_block ((wr.alloc o1).alloc o2) o3
  rwa [World.size_alloc, World.size_alloc] at this
theorem heap_at3 (wr : World) (o1 o2 o3 o4 : Obj) : ((((wr.alloc o1).alloc o2).alloc o3).alloc o4).drew.heap[wr.heap.size + 1 + 1 + 1]? = some o4 := by
  show ((((wr.alloc o1).alloc o2).alloc o3).alloc o4).heap[wr.heap.size + 1 + 1 + 1]? = some o4
  have := new_block (((wr.alloc o1).alloc o2).alloc o3) o4
  rwa [World.size_alloc, World.size_alloc, World.size_alloc] at this

theorem leafA {w wr : World} {S G : Nat → ByteArray} {k : Nat} {v : Value} {P : Nat → Nat} (hac : AccS w wr S G k v P) (o1 : Obj) (cc cp : Array Value) (hcc : cc[0]? = some (.string (S k))) (h9 : cp[9]? = some (.pointer (some ⟨wr.heap.size + 1, 0, none⟩))) (h10 : cp[10]? = some (.string (G k))) :
    Leaf w ((((wr.alloc o1).alloc (.cells cc 55)).alloc (.cells cp 58)).alloc (.cells #[.pointer (some ⟨wr.heap.size + 1 + 1, 0, none⟩)] 30)).drew S G k v P (wr.heap.size + 1 + 1) (wr.heap.size + 1 + 1 + 1) :=
  leaf_base hac (b4 _ _ _ _ _) ⟨_, cp, cc, heap_at2 _ _ _ _ _, h9, h10, heap_at1 _ _ _ _ _, hcc⟩ (heap_at3 _ _ _ _ _)
theorem leafB {w wr : World} {S G : Nat → ByteArray} {k : Nat} {v : Value} {P : Nat → Nat} (hac : AccS w wr S G k v P) (o2 : Obj) (cc cp : Array Value) (hcc : cc[0]? = some (.string (S k))) (h9 : cp[9]? = some (.pointer (some ⟨wr.heap.size, 0, none⟩))) (h10 : cp[10]? = some (.string (G k))) :
    Leaf w ((((wr.alloc (.cells cc 55)).alloc o2).alloc (.cells cp 58)).alloc (.cells #[.pointer (some ⟨wr.heap.size + 1 + 1, 0, none⟩)] 30)).drew S G k v P (wr.heap.size + 1 + 1) (wr.heap.size + 1 + 1 + 1) :=
  leaf_base hac (b4 _ _ _ _ _) ⟨_, cp, cc, heap_at2 _ _ _ _ _, h9, h10, heap_at0 _ _ _ _ _, hcc⟩ (heap_at3 _ _ _ _ _)

theorem leaf_wrap {w W : World} {S G : Nat → ByteArray} {k : Nat} {v : Value} {P : Nat → Nat} {p r : Nat} {X : World → Prop} (hL : Leaf w W S G k v P p r) (h : Leaf w W S G k v P p r → X W) : X W := h hL

theorem PosAt.far {w w' : World} {p : Nat} {s g : ByteArray} (h : PosAt w p s g) (hk : ∀ (b : Nat) (c : Array Value) (t : TypeId), w.heap[b]? = some (.cells c t (0, 0)) → t = 58 ∨ t = 55 → w'.heap[b]? = w.heap[b]?) : PosAt w' p s g := by
  obtain ⟨cp, c, cc, h1, h2, h3, h4, h5⟩ := h
  exact ⟨cp, c, cc, by rw [hk _ _ _ h1 (.inl rfl)]; exact h1, h2, h3, by rw [hk _ _ _ h4 (.inr rfl)]; exact h4, h5⟩

theorem own_apart {w : World} {base : Nat} {v : Value} {n : Nat} {xs : List Value} (h : w.ownsRow base 30 1 v n xs) {b : Nat} {c : Array Value} {t : TypeId} (hb : w.heap[b]? = some (.cells c t (0, 0))) (ht : t ≠ 30) : some b ≠ v.ownBlock := by
  rcases h.2 with ⟨rfl, _⟩ | ⟨g, cap, cur, rfl, hg, hh, _⟩
  · simp [Value.ownBlock]
  · intro e
    simp only [Value.ownBlock, Option.some.injEq] at e
    subst e
    rw [hb] at hh
    simp only [Option.some.injEq, Obj.cells.injEq] at hh
    exact ht hh.2.1

theorem after_app {w W W' : World} {S G : Nat → ByteArray} {k : Nat} {v v' : Value} {P : Nat → Nat} {p r : Nat} (hL : Leaf w W S G k v P p r) (hown : W'.ownsRow (w.heap.size + 1) 30 1 v' (k + 1) (((List.range k).map fun i => Value.pointer (some ⟨P i, 0, none⟩)) ++ [.pointer (some ⟨p, 0, none⟩)])) (hg : W.grownBy W' v.ownBlock) :
    Below w.heap.size w W' ∧ W'.cell? ⟨w.heap.size, 4, none⟩ = some v ∧ W'.frozen? ⟨w.heap.size, 4, none⟩ = false ∧ AccS w (W'.setCell ⟨w.heap.size, 4, none⟩ v') S G (k + 1) v' (fun i => if i = k then p else P i) := by
  obtain ⟨ca, h1, h2⟩ := hL.acc
  have hlt : w.heap.size < W.heap.size := by obtain ⟨hl, _⟩ := Array.getElem?_eq_some_iff.1 h1; exact hl
  have h1' : W'.heap[w.heap.size]? = some (.cells ca 37 (0, 0)) := by rw [hg.block _ hlt (own_apart hL.own h1 (by decide))]; exact h1
  have hB : Below w.heap.size w W' := hL.below.grown hg (Nat.le_of_lt hlt) fun j hj => by
    rcases hL.own.2 with ⟨rfl, _⟩ | ⟨g, cap, cur, rfl, hg2, _⟩
    · simp [Value.ownBlock] at hj
    · simp only [Value.ownBlock, Option.some.injEq] at hj; omega
  have hk : ∀ (b : Nat) (c : Array Value) (t : TypeId), W.heap[b]? = some (.cells c t (0, 0)) → t = 58 ∨ t = 55 → (W'.setCell ⟨w.heap.size, 4, none⟩ v').heap[b]? = W.heap[b]? := fun b c t hb ht => by
    have hbl : b < W.heap.size := by obtain ⟨hl, _⟩ := Array.getElem?_eq_some_iff.1 hb; exact hl
    have hne : b ≠ w.heap.size := fun e => by
      subst e
      rw [h1] at hb
      simp only [Option.some.injEq, Obj.cells.injEq] at hb
      rcases ht with rfl | rfl
      · exact absurd hb.2.1 (by decide)
      · exact absurd hb.2.1 (by decide)
    rw [Below.heap_setCell _ _ _ _ hne]
    exact hg.block b hbl (own_apart hL.own hb (by rcases ht with rfl | rfl <;> decide))
  refine ⟨hB, by simp [World.cell?, h1', h2], by simp [World.frozen?, h1'], ?_, ⟨_, heap_setCell_same _ _ _ _ _ _ h1', ?_⟩, ?_, fun i hi => ?_⟩
  · exact hB.setCell (Nat.le_refl _) _
  · have : 4 < ca.size := by obtain ⟨hl, _⟩ := Array.getElem?_eq_some_iff.1 h2; exact hl
    simp [this]
  · have e : (List.range (k + 1)).map (fun i => Value.pointer (some ⟨if i = k then p else P i, 0, none⟩)) = ((List.range k).map fun i => Value.pointer (some ⟨P i, 0, none⟩)) ++ [.pointer (some ⟨p, 0, none⟩)] := by
      rw [List.range_succ, List.map_append]
      congr 1
      · exact List.map_congr_left fun i hi => by rw [if_neg (Nat.ne_of_lt (List.mem_range.1 hi))]
      · simp
    rw [e]
    obtain ⟨hl, h⟩ := hown
    refine ⟨hl, ?_⟩
    rcases h with h | ⟨g, cap, cur, rfl, hg2, hh, hr⟩
    · exact .inl h
    · exact .inr ⟨g, cap, cur, rfl, hg2, by rw [Below.heap_setCell _ _ _ _ (by show g ≠ w.heap.size; omega)]; exact hh, hr⟩
  · by_cases e : i = k
    · subst e
      simp only [if_true]
      exact hL.new.far hk
    · simp only [if_neg e]
      exact (hL.pos i (by omega)).far hk

theorem Try.info30 : (Try.prog.info? 30).map (fun i => (i.zero, i.size, i.bytes)) = some (some (.pointer none), 1, 8) := by kernel_rfl

theorem acc_end {w wr : World} {S G : Nat → ByteArray} {n : Nat} {v : Value} {P : Nat → Nat} (h : AccS w wr S G n v P) : ∃ pa pc, v = .slice pa n pc ∧ n ≤ pc ∧ (pa = none → n = 0 ∧ pc = 0) ∧ Poss wr pa n P S G := by
  obtain ⟨hl, h2⟩ := h.own
  rcases h2 with ⟨rfl, h3⟩ | ⟨g, cap, cur, rfl, hg, hb, hcap, _, hsz, hxs⟩
  · subst h3
    exact ⟨none, 0, rfl, Nat.le_refl _, fun _ => ⟨rfl, rfl⟩, ⟨0, 0, by omega, by omega⟩, h.pos⟩
  · refine ⟨_, cap, rfl, hcap, by simp, ⟨g, 0, fun _ => rfl, fun i hi => ?_⟩, h.pos⟩
    rw [Nat.zero_add]
    simp only [World.cell?, hb]
    have hlt : i < cur.size := by omega
    have := congrArg (fun l => l[i]?) hxs
    simp only [List.getElem?_take, Nat.mul_one, hi, if_true, List.getElem?_map, List.getElem?_range hi, Option.map_some] at this
    simpa using this

/-- what ZZnewAccount hands back -/
def NewAcc (w w' : World) (S G : Nat → ByteArray) (n : Nat) (e : Ending) : Prop :=
  ∃ ab pa pc P, e = .returned (.pointer (some ⟨ab, 0, none⟩)) ∧ w'.cell? ⟨ab, 4, none⟩ = some (.slice pa n pc) ∧ n ≤ pc ∧ (pa = none → n = 0 ∧ pc = 0) ∧ Poss w' pa n P S G ∧ Below w.heap.size w w'

theorem newAcc_mk {w w' : World} {S G : Nat → ByteArray} {n ab : Nat} {pa : Option Addr} {pc : Nat} {P : Nat → Nat} (h0 : w'.cell? ⟨ab, 4, none⟩ = some (.slice pa n pc)) (h1 : n ≤ pc) (h2 : pa = none → n = 0 ∧ pc = 0) (h3 : Poss w' pa n P S G) (h4 : Below w.heap.size w w') : NewAcc w w' S G n (.returned (.pointer (some ⟨ab, 0, none⟩))) :=
  ⟨ab, pa, pc, P, rfl, h0, h1, h2, h3, h4⟩

theorem leaf_cell {w W : World} {S G : Nat → ByteArray} {k : Nat} {v : Value} {P : Nat → Nat} {p r : Nat} (hL : Leaf w W S G k v P p r) : W.cell? ⟨w.heap.size, 4, none⟩ = some v := by
  obtain ⟨ca, h1, h2⟩ := hL.acc
  simp [World.cell?, h1, h2]

theorem bAl {w W : World} {o : Obj} {p q : Prop} (h : p ∧ q ∧ Below w.heap.size w W) : Below w.heap.size w (W.alloc o) := h.2.2.alloc h.2.2.size _

set_option maxRecDepth 100000 in
set_option maxHeartbeats 2000000 in
set_option linter.unusedSimpArgs false in
theorem newAccount8 (nm : ByteArray) (sa la : Option Addr) (n sc lc : Nat) (S G : Nat → ByteArray) (hg : Bool) (w : World) (hn : n ≤ 65536) (hS : Rd w sa n (fun i => .string (S i))) (hG : Rd w la n (fun i => .string (G i))) :
    Calls Try.prog 8 #[.string nm, .slice sa n sc, .slice la n lc, .bool hg] w fun e w' => NewAcc w w' S G n e := by
  obtain ⟨ti, hti, hz0, hz1, hz2⟩ := info_parts Try.info30
  go_enter Try.func8, Try.ntmps8
  go_wp2
  have hst := acc_start w S G (fun _ => 0) (.string nm) (.int .i64 0) (.pointer none) (.int .i32 0) (.map none) (.map none) (.bool hg)
  generalize w.alloc (.cells #[.string nm, .int .i64 0, .pointer none, .int .i32 0, .slice none 0 0, .map none, .map none, .bool hg] 37) = w1 at hst ⊢
  go_loopg [10] n (fun g vi wr => ∃ (k : Nat) (v : Value) (P : Nat → Nat), k ≤ n ∧ g = n - k ∧ vi = .int .i64 k ∧ AccS w wr S G k v P)
  case atStart => exact ⟨0, _, _, Nat.zero_le _, rfl, rfl, hst⟩
  case round =>
    obtain ⟨k, v, P, hk, rfl, rfl, hac⟩ := hrel
    by_cases hlt : k < n
    · obtain ⟨sb, so, rfl, hsb, hsc⟩ := hS.one (by omega)
      obtain ⟨lb, lo, rfl, hlb, hlc⟩ := hG.one (by omega)
      have q1 := hsc k hlt
      have q2 := hlc k hlt
      have q3 := hac.cell.1
      have q4 := hac.cell.2
      have i1 : (0 : Int) ≤ k := by omega
      have i2 : (k : Int) < n := by omega
      clear hsc hlc hS hG
      have z0 : w.heap.size < wr.heap.size := World.block_lt_of_cell? _ _ q3
      have z1 : w.heap.size < wr.heap.size + 1 := by omega
      have z2 : w.heap.size < wr.heap.size + 1 + 1 := by omega
      have z3 : w.heap.size < wr.heap.size + 1 + 1 + 1 := by omega
      go_wp2
      refine wp_region_held_drew (S := fun W => W.cell? ⟨sb, so + k, none⟩ = some (.string (S k)) ∧ W.cell? ⟨lb, lo + k, none⟩ = some (.string (G k)) ∧ Below w.heap.size w W) (by kernel_rfl) (sOf q1 q2 hac.below.drew) (fun hHeld => ?_)
      refine wpAnyH_take (i := 0) (v := .pointer (some ⟨w.heap.size, 0, none⟩)) rfl (by kernel_rfl) (by kernel_rfl) (by kernel_rfl) (fun _ _ _ h => h) (Or.inl ⟨by rfl, by (intro W hSw; (try dsimp only at hSw); go_simp; try with_reducible rfl)⟩) hHeld ?_
      simp only [Act.put, List.setIfInBounds_toArray, List.set_cons_zero, List.set_cons_succ]
      refine wpAnyH_take (i := 1) (v := .pointer (some ⟨w.heap.size, 0, none⟩)) rfl (by kernel_rfl) (by kernel_rfl) (by kernel_rfl) (fun _ _ _ h => h) (Or.inl ⟨by rfl, by (intro W hSw; (try dsimp only at hSw); go_simp; try with_reducible rfl)⟩) hHeld ?_
      simp only [Act.put, List.setIfInBounds_toArray, List.set_cons_zero, List.set_cons_succ]
      refine wpAnyH_take (i := 2) (v := .pointer (some ⟨w.heap.size, 0, none⟩)) rfl (by kernel_rfl) (by kernel_rfl) (by kernel_rfl) (fun _ _ _ h => h) (Or.inl ⟨by rfl, by (intro W hSw; (try dsimp only at hSw); go_simp; try with_reducible rfl)⟩) hHeld ?_
      simp only [Act.put, List.setIfInBounds_toArray, List.set_cons_zero, List.set_cons_succ]
      refine wpAnyH_take (i := 3) (v := .pointer (some ⟨w.heap.size, 4, none⟩)) rfl (by kernel_rfl) (by kernel_rfl) (by kernel_rfl) (fun _ _ _ h => h) (Or.inl ⟨by rfl, by (intro W hSw; (try dsimp only at hSw); go_simp; try with_reducible rfl)⟩) hHeld ?_
      simp only [Act.put, List.setIfInBounds_toArray, List.set_cons_zero, List.set_cons_succ]
      refine wpAnyH_take (i := 6) (v := .slice (some ⟨sb, so, none⟩) n sc) rfl (by kernel_rfl) (by kernel_rfl) (by kernel_rfl) (fun _ _ _ h => h) (Or.inl ⟨by rfl, by (intro W hSw; (try dsimp only at hSw); go_simp; try with_reducible rfl)⟩) hHeld ?_
      simp only [Act.put, List.setIfInBounds_toArray, List.set_cons_zero, List.set_cons_succ]
      refine wpAnyH_take (i := 7) (v := .int .i64 k) rfl (by kernel_rfl) (by kernel_rfl) (by kernel_rfl) (fun _ _ _ h => h) (Or.inl ⟨by rfl, by (intro W hSw; (try dsimp only at hSw); go_simp; try with_reducible rfl)⟩) hHeld ?_
      simp only [Act.put, List.setIfInBounds_toArray, List.set_cons_zero, List.set_cons_succ]
      refine wpAnyH_take (i := 8) (v := .pointer (some ⟨sb, so + k, none⟩)) rfl (by kernel_rfl) (by kernel_rfl) (by kernel_rfl) (fun _ _ _ h => h) (Or.inl ⟨by rfl, by (intro W hSw; (try dsimp only at hSw); go_simp; try with_reducible rfl)⟩) hHeld ?_
      simp only [Act.put, List.setIfInBounds_toArray, List.set_cons_zero, List.set_cons_succ]
      refine wpAnyH_take (i := 9) (v := .string (S k)) rfl (by kernel_rfl) (by kernel_rfl) (by kernel_rfl) (fun _ _ _ h => h) (Or.inl ⟨by rfl, by (intro W hSw; (try dsimp only at hSw); go_simp; try with_reducible rfl)⟩) hHeld ?_
      simp only [Act.put, List.setIfInBounds_toArray, List.set_cons_zero, List.set_cons_succ]
      refine wpAnyH_take (i := 10) (v := _) rfl (by kernel_rfl) (by kernel_rfl) (by kernel_rfl) (fun _ _ _ h => h) (Or.inl ⟨by rfl, by (intro W hSw; (try dsimp only at hSw); go_simp; try with_reducible rfl)⟩) hHeld ?_
      simp only [Act.put, List.setIfInBounds_toArray, List.set_cons_zero, List.set_cons_succ]
      refine wpAnyH_take (i := 11) (v := _) rfl (by kernel_rfl) (by kernel_rfl) (by kernel_rfl) (fun _ _ _ h => h) (Or.inl ⟨by rfl, by (intro W hSw; (try dsimp only at hSw); go_simp; try with_reducible rfl)⟩) hHeld ?_
      simp only [Act.put, List.setIfInBounds_toArray, List.set_cons_zero, List.set_cons_succ]
      refine wpAnyH_take (i := 13) (v := .slice (some ⟨lb, lo, none⟩) n lc) rfl (by kernel_rfl) (by kernel_rfl) (by kernel_rfl) (fun _ _ _ h => h) (Or.inl ⟨by rfl, by (intro W hSw; (try dsimp only at hSw); go_simp; try with_reducible rfl)⟩) hHeld ?_
      simp only [Act.put, List.setIfInBounds_toArray, List.set_cons_zero, List.set_cons_succ]
      refine wpAnyH_take (i := 14) (v := .int .i64 k) rfl (by kernel_rfl) (by kernel_rfl) (by kernel_rfl) (fun _ _ _ h => h) (Or.inl ⟨by rfl, by (intro W hSw; (try dsimp only at hSw); go_simp; try with_reducible rfl)⟩) hHeld ?_
      simp only [Act.put, List.setIfInBounds_toArray, List.set_cons_zero, List.set_cons_succ]
      refine wpAnyH_take (i := 15) (v := .pointer (some ⟨lb, lo + k, none⟩)) rfl (by kernel_rfl) (by kernel_rfl) (by kernel_rfl) (fun _ _ _ h => h) (Or.inl ⟨by rfl, by (intro W hSw; (try dsimp only at hSw); go_simp; try with_reducible rfl)⟩) hHeld ?_
      simp only [Act.put, List.setIfInBounds_toArray, List.set_cons_zero, List.set_cons_succ]
      refine wpAnyH_take (i := 16) (v := .string (G k)) rfl (by kernel_rfl) (by kernel_rfl) (by kernel_rfl) (fun _ _ _ h => h) (Or.inl ⟨by rfl, by (intro W hSw; (try dsimp only at hSw); go_simp; try with_reducible rfl)⟩) hHeld ?_
      simp only [Act.put, List.setIfInBounds_toArray, List.set_cons_zero, List.set_cons_succ]
      refine wpAnyH_take (i := 17) (v := .pointer (some ⟨w.heap.size, 0, none⟩)) rfl (by kernel_rfl) (by kernel_rfl) (by kernel_rfl) (fun _ _ _ h => h) (Or.inl ⟨by rfl, by (intro W hSw; (try dsimp only at hSw); go_simp; try with_reducible rfl)⟩) hHeld ?_
      simp only [Act.put, List.setIfInBounds_toArray, List.set_cons_zero, List.set_cons_succ]
      refine wpAnyH_ready (rs := [4, 5, 12]) (by kernel_rfl) (by simp) ?_
      refine AllReadyH.cons rfl (fun K hK => ?_) ?_
      · go_simp
        refine hK.out _ _ hHeld (fun hHeld => ?_)
        clear hK
        refine wpAnyH_ready (rs := [5, 12]) (by kernel_rfl) (by simp) ?_
        refine AllReadyH.cons rfl (fun K hK => ?_) ?_
        · go_simp
          refine (fromInt12 _).mono ?_
          rintro e W' ⟨rfl, rfl⟩
          go_simp
          refine hK.out _ _ (sOf q1 q2 (bAl hHeld)) (fun hHeld => ?_)
          clear hK
          refine wpAnyH_ready (rs := [12]) (by kernel_rfl) (by simp) ?_
          refine AllReadyH.cons rfl (fun K hK => ?_) ?_
          · go_simp
            refine hK.out _ _ (sOf q1 q2 (bAl hHeld)) (fun hHeld => ?_)
            clear hK
            refine wpAnyH_take (i := 18) (v := _) rfl (by kernel_rfl) (by kernel_rfl) (by kernel_rfl) (fun _ _ _ h => h) (Or.inl ⟨by rfl, by (intro W hSw; (try dsimp only at hSw); go_simp; try with_reducible rfl)⟩) hHeld ?_
            simp only [Act.put, List.setIfInBounds_toArray, List.set_cons_zero, List.set_cons_succ]
            refine wpAnyH_ready (rs := [19]) (by kernel_rfl) (by simp) ?_
            refine AllReadyH.cons rfl (fun K hK => ?_) ?_
            · go_simp
              refine hK.out _ _ (sOf q1 q2 (bAl hHeld)) (fun hHeld => ?_)
              clear hK
              refine wpAnyH_ready (rs := [20]) (by kernel_rfl) (by simp) ?_
              refine AllReadyH.cons rfl (fun K hK => ?_) ?_
              · go_simp
                refine hK.out _ _ (sOf q1 q2 (bAl hHeld)) (fun hHeld => ?_)
                clear hK
                refine leaf_wrap (X := fun W => wpAnyH _ _ _ _ _ _ _ _ W) (by first | exact leafA hac _ _ _ rfl rfl rfl | exact leafB hac _ _ _ rfl rfl rfl) (fun hL => ?_)
                refine wpAnyH_ready (rs := [21]) (by kernel_rfl) (by simp) ?_
                refine AllReadyH.cons rfl (fun K hK => ?_) AllReadyH.nil
                refine step_append_lies _ rfl (.tmp 31) (.tmp 47) 27 rfl (w.heap.size + 1) 30 ti (.pointer none) 1 8 Try.underlying27 hti hz0 hz1 hz2 rfl (by decide) v k _ rfl hL.own ⟨wr.heap.size + 1 + 1 + 1, 0, none⟩ 1 1 [.pointer (some ⟨wr.heap.size + 1 + 1, 0, none⟩)] rfl (by simp) (World.news_of_block hL.row) (by simp [Value.oneCell']) (by decide) (by unfold maxLen; omega) (by omega) (World.block_lt_of_cell? _ _ (leaf_cell hL)) _ rfl ?_
                intro g cap W2 hown2 hgrow hat hgl
                obtain ⟨hB2, hA2, hF2, hac2⟩ := after_app hL hown2 hgrow
                refine hK.out _ _ (sOf q1 q2 hB2) (fun hHeld => ?_)
                clear hK hgrow hat hL
                simp only [Act.put, List.setIfInBounds_toArray, List.set_cons_zero, List.set_cons_succ]
                refine wpAnyH_take (i := 22) (v := .pointer (some ⟨w.heap.size, 0, none⟩)) rfl (by kernel_rfl) (by kernel_rfl) (by kernel_rfl) (fun _ _ _ h => h) (Or.inl ⟨by rfl, by (intro W hSw; (try dsimp only at hSw); go_simp; try with_reducible rfl)⟩) hHeld ?_
                simp only [Act.put, List.setIfInBounds_toArray, List.set_cons_zero, List.set_cons_succ]
                refine wpAnyH_take (i := 23) (v := .pointer (some ⟨w.heap.size, 4, none⟩)) rfl (by kernel_rfl) (by kernel_rfl) (by kernel_rfl) (fun _ _ _ h => h) (Or.inl ⟨by rfl, by (intro W hSw; (try dsimp only at hSw); go_simp; try with_reducible rfl)⟩) hHeld ?_
                simp only [Act.put, List.setIfInBounds_toArray, List.set_cons_zero, List.set_cons_succ]
                refine wpAnyH_ready (rs := [24]) (by kernel_rfl) (by simp) ?_
                refine AllReadyH.cons rfl (fun K hK => ?_) AllReadyH.nil
                go_simp
                refine hK.out _ _ (sOf q1 q2 hac2.below) (fun hHeld => ?_)
                refine wpAnyH_done (by kernel_rfl) ?_ _
                clear hK hHeld
                go_wp2
                go_roundg (n - (k + 1))
                case measure => go_light; omega
                case rel => go_light; exact ⟨k + 1, _, _, by omega, rfl, by go_num, hac2⟩
              exact AllReadyH.nil
            exact AllReadyH.nil
          exact AllReadyH.nil
        refine AllReadyH.cons rfl (fun K hK => ?_) ?_
        · go_simp
          refine hK.out _ _ (sOf q1 q2 (bAl hHeld)) (fun hHeld => ?_)
          clear hK
          refine wpAnyH_ready (rs := [5]) (by kernel_rfl) (by simp) ?_
          refine AllReadyH.cons rfl (fun K hK => ?_) ?_
          · go_simp
            refine (fromInt12 _).mono ?_
            rintro e W' ⟨rfl, rfl⟩
            go_simp
            refine hK.out _ _ (sOf q1 q2 (bAl hHeld)) (fun hHeld => ?_)
            clear hK
            refine wpAnyH_take (i := 18) (v := _) rfl (by kernel_rfl) (by kernel_rfl) (by kernel_rfl) (fun _ _ _ h => h) (Or.inl ⟨by rfl, by (intro W hSw; (try dsimp only at hSw); go_simp; try with_reducible rfl)⟩) hHeld ?_
            simp only [Act.put, List.setIfInBounds_toArray, List.set_cons_zero, List.set_cons_succ]
            refine wpAnyH_ready (rs := [19]) (by kernel_rfl) (by simp) ?_
            refine AllReadyH.cons rfl (fun K hK => ?_) ?_
            · go_simp
              refine hK.out _ _ (sOf q1 q2 (bAl hHeld)) (fun hHeld => ?_)
              clear hK
              refine wpAnyH_ready (rs := [20]) (by kernel_rfl) (by simp) ?_
              refine AllReadyH.cons rfl (fun K hK => ?_) ?_
              · go_simp
                refine hK.out _ _ (sOf q1 q2 (bAl hHeld)) (fun hHeld => ?_)
                clear hK
                refine leaf_wrap (X := fun W => wpAnyH _ _ _ _ _ _ _ _ W) (by first | exact leafA hac _ _ _ rfl rfl rfl | exact leafB hac _ _ _ rfl rfl rfl) (fun hL => ?_)
                refine wpAnyH_ready (rs := [21]) (by kernel_rfl) (by simp) ?_
                refine AllReadyH.cons rfl (fun K hK => ?_) AllReadyH.nil
                refine step_append_lies _ rfl (.tmp 31) (.tmp 47) 27 rfl (w.heap.size + 1) 30 ti (.pointer none) 1 8 Try.underlying27 hti hz0 hz1 hz2 rfl (by decide) v k _ rfl hL.own ⟨wr.heap.size + 1 + 1 + 1, 0, none⟩ 1 1 [.pointer (some ⟨wr.heap.size + 1 + 1, 0, none⟩)] rfl (by simp) (World.news_of_block hL.row) (by simp [Value.oneCell']) (by decide) (by unfold maxLen; omega) (by omega) (World.block_lt_of_cell? _ _ (leaf_cell hL)) _ rfl ?_
                intro g cap W2 hown2 hgrow hat hgl
                obtain ⟨hB2, hA2, hF2, hac2⟩ := after_app hL hown2 hgrow
                refine hK.out _ _ (sOf q1 q2 hB2) (fun hHeld => ?_)
                clear hK hgrow hat hL
                simp only [Act.put, List.setIfInBounds_toArray, List.set_cons_zero, List.set_cons_succ]
                refine wpAnyH_take (i := 22) (v := .pointer (some ⟨w.heap.size, 0, none⟩)) rfl (by kernel_rfl) (by kernel_rfl) (by kernel_rfl) (fun _ _ _ h => h) (Or.inl ⟨by rfl, by (intro W hSw; (try dsimp only at hSw); go_simp; try with_reducible rfl)⟩) hHeld ?_
                simp only [Act.put, List.setIfInBounds_toArray, List.set_cons_zero, List.set_cons_succ]
                refine wpAnyH_take (i := 23) (v := .pointer (some ⟨w.heap.size, 4, none⟩)) rfl (by kernel_rfl) (by kernel_rfl) (by kernel_rfl) (fun _ _ _ h => h) (Or.inl ⟨by rfl, by (intro W hSw; (try dsimp only at hSw); go_simp; try with_reducible rfl)⟩) hHeld ?_
                simp only [Act.put, List.setIfInBounds_toArray, List.set_cons_zero, List.set_cons_succ]
                refine wpAnyH_ready (rs := [24]) (by kernel_rfl) (by simp) ?_
                refine AllReadyH.cons rfl (fun K hK => ?_) AllReadyH.nil
                go_simp
                refine hK.out _ _ (sOf q1 q2 hac2.below) (fun hHeld => ?_)
                refine wpAnyH_done (by kernel_rfl) ?_ _
                clear hK hHeld
                go_wp2
                go_roundg (n - (k + 1))
                case measure => go_light; omega
                case rel => go_light; exact ⟨k + 1, _, _, by omega, rfl, by go_num, hac2⟩
              exact AllReadyH.nil
            exact AllReadyH.nil
          exact AllReadyH.nil
        exact AllReadyH.nil
      refine AllReadyH.cons rfl (fun K hK => ?_) ?_
      · go_simp
        refine (fromInt12 _).mono ?_
        rintro e W' ⟨rfl, rfl⟩
        go_simp
        refine hK.out _ _ (sOf q1 q2 (bAl hHeld)) (fun hHeld => ?_)
        clear hK
        refine wpAnyH_ready (rs := [4, 12]) (by kernel_rfl) (by simp) ?_
        refine AllReadyH.cons rfl (fun K hK => ?_) ?_
        · go_simp
          refine hK.out _ _ hHeld (fun hHeld => ?_)
          clear hK
          refine wpAnyH_ready (rs := [12]) (by kernel_rfl) (by simp) ?_
          refine AllReadyH.cons rfl (fun K hK => ?_) ?_
          · go_simp
            refine hK.out _ _ (sOf q1 q2 (bAl hHeld)) (fun hHeld => ?_)
            clear hK
            refine wpAnyH_take (i := 18) (v := _) rfl (by kernel_rfl) (by kernel_rfl) (by kernel_rfl) (fun _ _ _ h => h) (Or.inl ⟨by rfl, by (intro W hSw; (try dsimp only at hSw); go_simp; try with_reducible rfl)⟩) hHeld ?_
            simp only [Act.put, List.setIfInBounds_toArray, List.set_cons_zero, List.set_cons_succ]
            refine wpAnyH_ready (rs := [19]) (by kernel_rfl) (by simp) ?_
            refine AllReadyH.cons rfl (fun K hK => ?_) ?_
            · go_simp
              refine hK.out _ _ (sOf q1 q2 (bAl hHeld)) (fun hHeld => ?_)
              clear hK
              refine wpAnyH_ready (rs := [20]) (by kernel_rfl) (by simp) ?_
              refine AllReadyH.cons rfl (fun K hK => ?_) ?_
              · go_simp
                refine hK.out _ _ (sOf q1 q2 (bAl hHeld)) (fun hHeld => ?_)
                clear hK
                refine leaf_wrap (X := fun W => wpAnyH _ _ _ _ _ _ _ _ W) (by first | exact leafA hac _ _ _ rfl rfl rfl | exact leafB hac _ _ _ rfl rfl rfl) (fun hL => ?_)
                refine wpAnyH_ready (rs := [21]) (by kernel_rfl) (by simp) ?_
                refine AllReadyH.cons rfl (fun K hK => ?_) AllReadyH.nil
                refine step_append_lies _ rfl (.tmp 31) (.tmp 47) 27 rfl (w.heap.size + 1) 30 ti (.pointer none) 1 8 Try.underlying27 hti hz0 hz1 hz2 rfl (by decide) v k _ rfl hL.own ⟨wr.heap.size + 1 + 1 + 1, 0, none⟩ 1 1 [.pointer (some ⟨wr.heap.size + 1 + 1, 0, none⟩)] rfl (by simp) (World.news_of_block hL.row) (by simp [Value.oneCell']) (by decide) (by unfold maxLen; omega) (by omega) (World.block_lt_of_cell? _ _ (leaf_cell hL)) _ rfl ?_
                intro g cap W2 hown2 hgrow hat hgl
                obtain ⟨hB2, hA2, hF2, hac2⟩ := after_app hL hown2 hgrow
                refine hK.out _ _ (sOf q1 q2 hB2) (fun hHeld => ?_)
                clear hK hgrow hat hL
                simp only [Act.put, List.setIfInBounds_toArray, List.set_cons_zero, List.set_cons_succ]
                refine wpAnyH_take (i := 22) (v := .pointer (some ⟨w.heap.size, 0, none⟩)) rfl (by kernel_rfl) (by kernel_rfl) (by kernel_rfl) (fun _ _ _ h => h) (Or.inl ⟨by rfl, by (intro W hSw; (try dsimp only at hSw); go_simp; try with_reducible rfl)⟩) hHeld ?_
                simp only [Act.put, List.setIfInBounds_toArray, List.set_cons_zero, List.set_cons_succ]
                refine wpAnyH_take (i := 23) (v := .pointer (some ⟨w.heap.size, 4, none⟩)) rfl (by kernel_rfl) (by kernel_rfl) (by kernel_rfl) (fun _ _ _ h => h) (Or.inl ⟨by rfl, by (intro W hSw; (try dsimp only at hSw); go_simp; try with_reducible rfl)⟩) hHeld ?_
                simp only [Act.put, List.setIfInBounds_toArray, List.set_cons_zero, List.set_cons_succ]
                refine wpAnyH_ready (rs := [24]) (by kernel_rfl) (by simp) ?_
                refine AllReadyH.cons rfl (fun K hK => ?_) AllReadyH.nil
                go_simp
                refine hK.out _ _ (sOf q1 q2 hac2.below) (fun hHeld => ?_)
                refine wpAnyH_done (by kernel_rfl) ?_ _
                clear hK hHeld
                go_wp2
                go_roundg (n - (k + 1))
                case measure => go_light; omega
                case rel => go_light; exact ⟨k + 1, _, _, by omega, rfl, by go_num, hac2⟩
              exact AllReadyH.nil
            exact AllReadyH.nil
          exact AllReadyH.nil
        refine AllReadyH.cons rfl (fun K hK => ?_) ?_
        · go_simp
          refine hK.out _ _ (sOf q1 q2 (bAl hHeld)) (fun hHeld => ?_)
          clear hK
          refine wpAnyH_take (i := 18) (v := _) rfl (by kernel_rfl) (by kernel_rfl) (by kernel_rfl) (fun _ _ _ h => h) (Or.inl ⟨by rfl, by (intro W hSw; (try dsimp only at hSw); go_simp; try with_reducible rfl)⟩) hHeld ?_
          simp only [Act.put, List.setIfInBounds_toArray, List.set_cons_zero, List.set_cons_succ]
          refine wpAnyH_ready (rs := [4, 19]) (by kernel_rfl) (by simp) ?_
          refine AllReadyH.cons rfl (fun K hK => ?_) ?_
          · go_simp
            refine hK.out _ _ hHeld (fun hHeld => ?_)
            clear hK
            refine wpAnyH_ready (rs := [19]) (by kernel_rfl) (by simp) ?_
            refine AllReadyH.cons rfl (fun K hK => ?_) ?_
            · go_simp
              refine hK.out _ _ (sOf q1 q2 (bAl hHeld)) (fun hHeld => ?_)
              clear hK
              refine wpAnyH_ready (rs := [20]) (by kernel_rfl) (by simp) ?_
              refine AllReadyH.cons rfl (fun K hK => ?_) ?_
              · go_simp
                refine hK.out _ _ (sOf q1 q2 (bAl hHeld)) (fun hHeld => ?_)
                clear hK
                refine leaf_wrap (X := fun W => wpAnyH _ _ _ _ _ _ _ _ W) (by first | exact leafA hac _ _ _ rfl rfl rfl | exact leafB hac _ _ _ rfl rfl rfl) (fun hL => ?_)
                refine wpAnyH_ready (rs := [21]) (by kernel_rfl) (by simp) ?_
                refine AllReadyH.cons rfl (fun K hK => ?_) AllReadyH.nil
                refine step_append_lies _ rfl (.tmp 31) (.tmp 47) 27 rfl (w.heap.size + 1) 30 ti (.pointer none) 1 8 Try.underlying27 hti hz0 hz1 hz2 rfl (by decide) v k _ rfl hL.own ⟨wr.heap.size + 1 + 1 + 1, 0, none⟩ 1 1 [.pointer (some ⟨wr.heap.size + 1 + 1, 0, none⟩)] rfl (by simp) (World.news_of_block hL.row) (by simp [Value.oneCell']) (by decide) (by unfold maxLen; omega) (by omega) (World.block_lt_of_cell? _ _ (leaf_cell hL)) _ rfl ?_
                intro g cap W2 hown2 hgrow hat hgl
                obtain ⟨hB2, hA2, hF2, hac2⟩ := after_app hL hown2 hgrow
                refine hK.out _ _ (sOf q1 q2 hB2) (fun hHeld => ?_)
                clear hK hgrow hat hL
                simp only [Act.put, List.setIfInBounds_toArray, List.set_cons_zero, List.set_cons_succ]
                refine wpAnyH_take (i := 22) (v := .pointer (some ⟨w.heap.size, 0, none⟩)) rfl (by kernel_rfl) (by kernel_rfl) (by kernel_rfl) (fun _ _ _ h => h) (Or.inl ⟨by rfl, by (intro W hSw; (try dsimp only at hSw); go_simp; try with_reducible rfl)⟩) hHeld ?_
                simp only [Act.put, List.setIfInBounds_toArray, List.set_cons_zero, List.set_cons_succ]
                refine wpAnyH_take (i := 23) (v := .pointer (some ⟨w.heap.size, 4, none⟩)) rfl (by kernel_rfl) (by kernel_rfl) (by kernel_rfl) (fun _ _ _ h => h) (Or.inl ⟨by rfl, by (intro W hSw; (try dsimp only at hSw); go_simp; try with_reducible rfl)⟩) hHeld ?_
                simp only [Act.put, List.setIfInBounds_toArray, List.set_cons_zero, List.set_cons_succ]
                refine wpAnyH_ready (rs := [24]) (by kernel_rfl) (by simp) ?_
                refine AllReadyH.cons rfl (fun K hK => ?_) AllReadyH.nil
                go_simp
                refine hK.out _ _ (sOf q1 q2 hac2.below) (fun hHeld => ?_)
                refine wpAnyH_done (by kernel_rfl) ?_ _
                clear hK hHeld
                go_wp2
                go_roundg (n - (k + 1))
                case measure => go_light; omega
                case rel => go_light; exact ⟨k + 1, _, _, by omega, rfl, by go_num, hac2⟩
              exact AllReadyH.nil
            exact AllReadyH.nil
          refine AllReadyH.cons rfl (fun K hK => ?_) ?_
          · go_simp
            refine hK.out _ _ (sOf q1 q2 (bAl hHeld)) (fun hHeld => ?_)
            clear hK
            refine wpAnyH_ready (rs := [4, 20]) (by kernel_rfl) (by simp) ?_
            refine AllReadyH.cons rfl (fun K hK => ?_) ?_
            · go_simp
              refine hK.out _ _ hHeld (fun hHeld => ?_)
              clear hK
              refine wpAnyH_ready (rs := [20]) (by kernel_rfl) (by simp) ?_
              refine AllReadyH.cons rfl (fun K hK => ?_) ?_
              · go_simp
                refine hK.out _ _ (sOf q1 q2 (bAl hHeld)) (fun hHeld => ?_)
                clear hK
                refine leaf_wrap (X := fun W => wpAnyH _ _ _ _ _ _ _ _ W) (by first | exact leafA hac _ _ _ rfl rfl rfl | exact leafB hac _ _ _ rfl rfl rfl) (fun hL => ?_)
                refine wpAnyH_ready (rs := [21]) (by kernel_rfl) (by simp) ?_
                refine AllReadyH.cons rfl (fun K hK => ?_) AllReadyH.nil
                refine step_append_lies _ rfl (.tmp 31) (.tmp 47) 27 rfl (w.heap.size + 1) 30 ti (.pointer none) 1 8 Try.underlying27 hti hz0 hz1 hz2 rfl (by decide) v k _ rfl hL.own ⟨wr.heap.size + 1 + 1 + 1, 0, none⟩ 1 1 [.pointer (some ⟨wr.heap.size + 1 + 1, 0, none⟩)] rfl (by simp) (World.news_of_block hL.row) (by simp [Value.oneCell']) (by decide) (by unfold maxLen; omega) (by omega) (World.block_lt_of_cell? _ _ (leaf_cell hL)) _ rfl ?_
                intro g cap W2 hown2 hgrow hat hgl
                obtain ⟨hB2, hA2, hF2, hac2⟩ := after_app hL hown2 hgrow
                refine hK.out _ _ (sOf q1 q2 hB2) (fun hHeld => ?_)
                clear hK hgrow hat hL
                simp only [Act.put, List.setIfInBounds_toArray, List.set_cons_zero, List.set_cons_succ]
                refine wpAnyH_take (i := 22) (v := .pointer (some ⟨w.heap.size, 0, none⟩)) rfl (by kernel_rfl) (by kernel_rfl) (by kernel_rfl) (fun _ _ _ h => h) (Or.inl ⟨by rfl, by (intro W hSw; (try dsimp only at hSw); go_simp; try with_reducible rfl)⟩) hHeld ?_
                simp only [Act.put, List.setIfInBounds_toArray, List.set_cons_zero, List.set_cons_succ]
                refine wpAnyH_take (i := 23) (v := .pointer (some ⟨w.heap.size, 4, none⟩)) rfl (by kernel_rfl) (by kernel_rfl) (by kernel_rfl) (fun _ _ _ h => h) (Or.inl ⟨by rfl, by (intro W hSw; (try dsimp only at hSw); go_simp; try with_reducible rfl)⟩) hHeld ?_
                simp only [Act.put, List.setIfInBounds_toArray, List.set_cons_zero, List.set_cons_succ]
                refine wpAnyH_ready (rs := [24]) (by kernel_rfl) (by simp) ?_
                refine AllReadyH.cons rfl (fun K hK => ?_) AllReadyH.nil
                go_simp
                refine hK.out _ _ (sOf q1 q2 hac2.below) (fun hHeld => ?_)
                refine wpAnyH_done (by kernel_rfl) ?_ _
                clear hK hHeld
                go_wp2
                go_roundg (n - (k + 1))
                case measure => go_light; omega
                case rel => go_light; exact ⟨k + 1, _, _, by omega, rfl, by go_num, hac2⟩
              exact AllReadyH.nil
            refine AllReadyH.cons rfl (fun K hK => ?_) ?_
            · go_simp
              refine hK.out _ _ (sOf q1 q2 (bAl hHeld)) (fun hHeld => ?_)
              clear hK
              refine wpAnyH_ready (rs := [4]) (by kernel_rfl) (by simp) ?_
              refine AllReadyH.cons rfl (fun K hK => ?_) ?_
              · go_simp
                refine hK.out _ _ hHeld (fun hHeld => ?_)
                clear hK
                refine leaf_wrap (X := fun W => wpAnyH _ _ _ _ _ _ _ _ W) (by first | exact leafA hac _ _ _ rfl rfl rfl | exact leafB hac _ _ _ rfl rfl rfl) (fun hL => ?_)
                refine wpAnyH_ready (rs := [21]) (by kernel_rfl) (by simp) ?_
                refine AllReadyH.cons rfl (fun K hK => ?_) AllReadyH.nil
                refine step_append_lies _ rfl (.tmp 31) (.tmp 47) 27 rfl (w.heap.size + 1) 30 ti (.pointer none) 1 8 Try.underlying27 hti hz0 hz1 hz2 rfl (by decide) v k _ rfl hL.own ⟨wr.heap.size + 1 + 1 + 1, 0, none⟩ 1 1 [.pointer (some ⟨wr.heap.size + 1 + 1, 0, none⟩)] rfl (by simp) (World.news_of_block hL.row) (by simp [Value.oneCell']) (by decide) (by unfold maxLen; omega) (by omega) (World.block_lt_of_cell? _ _ (leaf_cell hL)) _ rfl ?_
                intro g cap W2 hown2 hgrow hat hgl
                obtain ⟨hB2, hA2, hF2, hac2⟩ := after_app hL hown2 hgrow
                refine hK.out _ _ (sOf q1 q2 hB2) (fun hHeld => ?_)
                clear hK hgrow hat hL
                simp only [Act.put, List.setIfInBounds_toArray, List.set_cons_zero, List.set_cons_succ]
                refine wpAnyH_take (i := 22) (v := .pointer (some ⟨w.heap.size, 0, none⟩)) rfl (by kernel_rfl) (by kernel_rfl) (by kernel_rfl) (fun _ _ _ h => h) (Or.inl ⟨by rfl, by (intro W hSw; (try dsimp only at hSw); go_simp; try with_reducible rfl)⟩) hHeld ?_
                simp only [Act.put, List.setIfInBounds_toArray, List.set_cons_zero, List.set_cons_succ]
                refine wpAnyH_take (i := 23) (v := .pointer (some ⟨w.heap.size, 4, none⟩)) rfl (by kernel_rfl) (by kernel_rfl) (by kernel_rfl) (fun _ _ _ h => h) (Or.inl ⟨by rfl, by (intro W hSw; (try dsimp only at hSw); go_simp; try with_reducible rfl)⟩) hHeld ?_
                simp only [Act.put, List.setIfInBounds_toArray, List.set_cons_zero, List.set_cons_succ]
                refine wpAnyH_ready (rs := [24]) (by kernel_rfl) (by simp) ?_
                refine AllReadyH.cons rfl (fun K hK => ?_) AllReadyH.nil
                go_simp
                refine hK.out _ _ (sOf q1 q2 hac2.below) (fun hHeld => ?_)
                refine wpAnyH_done (by kernel_rfl) ?_ _
                clear hK hHeld
                go_wp2
                go_roundg (n - (k + 1))
                case measure => go_light; omega
                case rel => go_light; exact ⟨k + 1, _, _, by omega, rfl, by go_num, hac2⟩
              exact AllReadyH.nil
            exact AllReadyH.nil
          exact AllReadyH.nil
        exact AllReadyH.nil
      refine AllReadyH.cons rfl (fun K hK => ?_) ?_
      · go_simp
        refine hK.out _ _ (sOf q1 q2 (bAl hHeld)) (fun hHeld => ?_)
        clear hK
        refine wpAnyH_ready (rs := [4, 5]) (by kernel_rfl) (by simp) ?_
        refine AllReadyH.cons rfl (fun K hK => ?_) ?_
        · go_simp
          refine hK.out _ _ hHeld (fun hHeld => ?_)
          clear hK
          refine wpAnyH_ready (rs := [5]) (by kernel_rfl) (by simp) ?_
          refine AllReadyH.cons rfl (fun K hK => ?_) ?_
          · go_simp
            refine (fromInt12 _).mono ?_
            rintro e W' ⟨rfl, rfl⟩
            go_simp
            refine hK.out _ _ (sOf q1 q2 (bAl hHeld)) (fun hHeld => ?_)
            clear hK
            refine wpAnyH_take (i := 18) (v := _) rfl (by kernel_rfl) (by kernel_rfl) (by kernel_rfl) (fun _ _ _ h => h) (Or.inl ⟨by rfl, by (intro W hSw; (try dsimp only at hSw); go_simp; try with_reducible rfl)⟩) hHeld ?_
            simp only [Act.put, List.setIfInBounds_toArray, List.set_cons_zero, List.set_cons_succ]
            refine wpAnyH_ready (rs := [19]) (by kernel_rfl) (by simp) ?_
            refine AllReadyH.cons rfl (fun K hK => ?_) ?_
            · go_simp
              refine hK.out _ _ (sOf q1 q2 (bAl hHeld)) (fun hHeld => ?_)
              clear hK
              refine wpAnyH_ready (rs := [20]) (by kernel_rfl) (by simp) ?_
              refine AllReadyH.cons rfl (fun K hK => ?_) ?_
              · go_simp
                refine hK.out _ _ (sOf q1 q2 (bAl hHeld)) (fun hHeld => ?_)
                clear hK
                refine leaf_wrap (X := fun W => wpAnyH _ _ _ _ _ _ _ _ W) (by first | exact leafA hac _ _ _ rfl rfl rfl | exact leafB hac _ _ _ rfl rfl rfl) (fun hL => ?_)
                refine wpAnyH_ready (rs := [21]) (by kernel_rfl) (by simp) ?_
                refine AllReadyH.cons rfl (fun K hK => ?_) AllReadyH.nil
                refine step_append_lies _ rfl (.tmp 31) (.tmp 47) 27 rfl (w.heap.size + 1) 30 ti (.pointer none) 1 8 Try.underlying27 hti hz0 hz1 hz2 rfl (by decide) v k _ rfl hL.own ⟨wr.heap.size + 1 + 1 + 1, 0, none⟩ 1 1 [.pointer (some ⟨wr.heap.size + 1 + 1, 0, none⟩)] rfl (by simp) (World.news_of_block hL.row) (by simp [Value.oneCell']) (by decide) (by unfold maxLen; omega) (by omega) (World.block_lt_of_cell? _ _ (leaf_cell hL)) _ rfl ?_
                intro g cap W2 hown2 hgrow hat hgl
                obtain ⟨hB2, hA2, hF2, hac2⟩ := after_app hL hown2 hgrow
                refine hK.out _ _ (sOf q1 q2 hB2) (fun hHeld => ?_)
                clear hK hgrow hat hL
                simp only [Act.put, List.setIfInBounds_toArray, List.set_cons_zero, List.set_cons_succ]
                refine wpAnyH_take (i := 22) (v := .pointer (some ⟨w.heap.size, 0, none⟩)) rfl (by kernel_rfl) (by kernel_rfl) (by kernel_rfl) (fun _ _ _ h => h) (Or.inl ⟨by rfl, by (intro W hSw; (try dsimp only at hSw); go_simp; try with_reducible rfl)⟩) hHeld ?_
                simp only [Act.put, List.setIfInBounds_toArray, List.set_cons_zero, List.set_cons_succ]
                refine wpAnyH_take (i := 23) (v := .pointer (some ⟨w.heap.size, 4, none⟩)) rfl (by kernel_rfl) (by kernel_rfl) (by kernel_rfl) (fun _ _ _ h => h) (Or.inl ⟨by rfl, by (intro W hSw; (try dsimp only at hSw); go_simp; try with_reducible rfl)⟩) hHeld ?_
                simp only [Act.put, List.setIfInBounds_toArray, List.set_cons_zero, List.set_cons_succ]
                refine wpAnyH_ready (rs := [24]) (by kernel_rfl) (by simp) ?_
                refine AllReadyH.cons rfl (fun K hK => ?_) AllReadyH.nil
                go_simp
                refine hK.out _ _ (sOf q1 q2 hac2.below) (fun hHeld => ?_)
                refine wpAnyH_done (by kernel_rfl) ?_ _
                clear hK hHeld
                go_wp2
                go_roundg (n - (k + 1))
                case measure => go_light; omega
                case rel => go_light; exact ⟨k + 1, _, _, by omega, rfl, by go_num, hac2⟩
              exact AllReadyH.nil
            exact AllReadyH.nil
          exact AllReadyH.nil
        refine AllReadyH.cons rfl (fun K hK => ?_) ?_
        · go_simp
          refine (fromInt12 _).mono ?_
          rintro e W' ⟨rfl, rfl⟩
          go_simp
          refine hK.out _ _ (sOf q1 q2 (bAl hHeld)) (fun hHeld => ?_)
          clear hK
          refine wpAnyH_take (i := 18) (v := _) rfl (by kernel_rfl) (by kernel_rfl) (by kernel_rfl) (fun _ _ _ h => h) (Or.inl ⟨by rfl, by (intro W hSw; (try dsimp only at hSw); go_simp; try with_reducible rfl)⟩) hHeld ?_
          simp only [Act.put, List.setIfInBounds_toArray, List.set_cons_zero, List.set_cons_succ]
          refine wpAnyH_ready (rs := [4, 19]) (by kernel_rfl) (by simp) ?_
          refine AllReadyH.cons rfl (fun K hK => ?_) ?_
          · go_simp
            refine hK.out _ _ hHeld (fun hHeld => ?_)
            clear hK
            refine wpAnyH_ready (rs := [19]) (by kernel_rfl) (by simp) ?_
            refine AllReadyH.cons rfl (fun K hK => ?_) ?_
            · go_simp
              refine hK.out _ _ (sOf q1 q2 (bAl hHeld)) (fun hHeld => ?_)
              clear hK
              refine wpAnyH_ready (rs := [20]) (by kernel_rfl) (by simp) ?_
              refine AllReadyH.cons rfl (fun K hK => ?_) ?_
              · go_simp
                refine hK.out _ _ (sOf q1 q2 (bAl hHeld)) (fun hHeld => ?_)
                clear hK
                refine leaf_wrap (X := fun W => wpAnyH _ _ _ _ _ _ _ _ W) (by first | exact leafA hac _ _ _ rfl rfl rfl | exact leafB hac _ _ _ rfl rfl rfl) (fun hL => ?_)
                refine wpAnyH_ready (rs := [21]) (by kernel_rfl) (by simp) ?_
                refine AllReadyH.cons rfl (fun K hK => ?_) AllReadyH.nil
                refine step_append_lies _ rfl (.tmp 31) (.tmp 47) 27 rfl (w.heap.size + 1) 30 ti (.pointer none) 1 8 Try.underlying27 hti hz0 hz1 hz2 rfl (by decide) v k _ rfl hL.own ⟨wr.heap.size + 1 + 1 + 1, 0, none⟩ 1 1 [.pointer (some ⟨wr.heap.size + 1 + 1, 0, none⟩)] rfl (by simp) (World.news_of_block hL.row) (by simp [Value.oneCell']) (by decide) (by unfold maxLen; omega) (by omega) (World.block_lt_of_cell? _ _ (leaf_cell hL)) _ rfl ?_
                intro g cap W2 hown2 hgrow hat hgl
                obtain ⟨hB2, hA2, hF2, hac2⟩ := after_app hL hown2 hgrow
                refine hK.out _ _ (sOf q1 q2 hB2) (fun hHeld => ?_)
                clear hK hgrow hat hL
                simp only [Act.put, List.setIfInBounds_toArray, List.set_cons_zero, List.set_cons_succ]
                refine wpAnyH_take (i := 22) (v := .pointer (some ⟨w.heap.size, 0, none⟩)) rfl (by kernel_rfl) (by kernel_rfl) (by kernel_rfl) (fun _ _ _ h => h) (Or.inl ⟨by rfl, by (intro W hSw; (try dsimp only at hSw); go_simp; try with_reducible rfl)⟩) hHeld ?_
                simp only [Act.put, List.setIfInBounds_toArray, List.set_cons_zero, List.set_cons_succ]
                refine wpAnyH_take (i := 23) (v := .pointer (some ⟨w.heap.size, 4, none⟩)) rfl (by kernel_rfl) (by kernel_rfl) (by kernel_rfl) (fun _ _ _ h => h) (Or.inl ⟨by rfl, by (intro W hSw; (try dsimp only at hSw); go_simp; try with_reducible rfl)⟩) hHeld ?_
                simp only [Act.put, List.setIfInBounds_toArray, List.set_cons_zero, List.set_cons_succ]
                refine wpAnyH_ready (rs := [24]) (by kernel_rfl) (by simp) ?_
                refine AllReadyH.cons rfl (fun K hK => ?_) AllReadyH.nil
                go_simp
                refine hK.out _ _ (sOf q1 q2 hac2.below) (fun hHeld => ?_)
                refine wpAnyH_done (by kernel_rfl) ?_ _
                clear hK hHeld
                go_wp2
                go_roundg (n - (k + 1))
                case measure => go_light; omega
                case rel => go_light; exact ⟨k + 1, _, _, by omega, rfl, by go_num, hac2⟩
              exact AllReadyH.nil
            exact AllReadyH.nil
          refine AllReadyH.cons rfl (fun K hK => ?_) ?_
          · go_simp
            refine hK.out _ _ (sOf q1 q2 (bAl hHeld)) (fun hHeld => ?_)
            clear hK
            refine wpAnyH_ready (rs := [4, 20]) (by kernel_rfl) (by simp) ?_
            refine AllReadyH.cons rfl (fun K hK => ?_) ?_
            · go_simp
              refine hK.out _ _ hHeld (fun hHeld => ?_)
              clear hK
              refine wpAnyH_ready (rs := [20]) (by kernel_rfl) (by simp) ?_
              refine AllReadyH.cons rfl (fun K hK => ?_) ?_
              · go_simp
                refine hK.out _ _ (sOf q1 q2 (bAl hHeld)) (fun hHeld => ?_)
                clear hK
                refine leaf_wrap (X := fun W => wpAnyH _ _ _ _ _ _ _ _ W) (by first | exact leafA hac _ _ _ rfl rfl rfl | exact leafB hac _ _ _ rfl rfl rfl) (fun hL => ?_)
                refine wpAnyH_ready (rs := [21]) (by kernel_rfl) (by simp) ?_
                refine AllReadyH.cons rfl (fun K hK => ?_) AllReadyH.nil
                refine step_append_lies _ rfl (.tmp 31) (.tmp 47) 27 rfl (w.heap.size + 1) 30 ti (.pointer none) 1 8 Try.underlying27 hti hz0 hz1 hz2 rfl (by decide) v k _ rfl hL.own ⟨wr.heap.size + 1 + 1 + 1, 0, none⟩ 1 1 [.pointer (some ⟨wr.heap.size + 1 + 1, 0, none⟩)] rfl (by simp) (World.news_of_block hL.row) (by simp [Value.oneCell']) (by decide) (by unfold maxLen; omega) (by omega) (World.block_lt_of_cell? _ _ (leaf_cell hL)) _ rfl ?_
                intro g cap W2 hown2 hgrow hat hgl
                obtain ⟨hB2, hA2, hF2, hac2⟩ := after_app hL hown2 hgrow
                refine hK.out _ _ (sOf q1 q2 hB2) (fun hHeld => ?_)
                clear hK hgrow hat hL
                simp only [Act.put, List.setIfInBounds_toArray, List.set_cons_zero, List.set_cons_succ]
                refine wpAnyH_take (i := 22) (v := .pointer (some ⟨w.heap.size, 0, none⟩)) rfl (by kernel_rfl) (by kernel_rfl) (by kernel_rfl) (fun _ _ _ h => h) (Or.inl ⟨by rfl, by (intro W hSw; (try dsimp only at hSw); go_simp; try with_reducible rfl)⟩) hHeld ?_
                simp only [Act.put, List.setIfInBounds_toArray, List.set_cons_zero, List.set_cons_succ]
                refine wpAnyH_take (i := 23) (v := .pointer (some ⟨w.heap.size, 4, none⟩)) rfl (by kernel_rfl) (by kernel_rfl) (by kernel_rfl) (fun _ _ _ h => h) (Or.inl ⟨by rfl, by (intro W hSw; (try dsimp only at hSw); go_simp; try with_reducible rfl)⟩) hHeld ?_
                simp only [Act.put, List.setIfInBounds_toArray, List.set_cons_zero, List.set_cons_succ]
                refine wpAnyH_ready (rs := [24]) (by kernel_rfl) (by simp) ?_
                refine AllReadyH.cons rfl (fun K hK => ?_) AllReadyH.nil
                go_simp
                refine hK.out _ _ (sOf q1 q2 hac2.below) (fun hHeld => ?_)
                refine wpAnyH_done (by kernel_rfl) ?_ _
                clear hK hHeld
                go_wp2
                go_roundg (n - (k + 1))
                case measure => go_light; omega
                case rel => go_light; exact ⟨k + 1, _, _, by omega, rfl, by go_num, hac2⟩
              exact AllReadyH.nil
            refine AllReadyH.cons rfl (fun K hK => ?_) ?_
            · go_simp
              refine hK.out _ _ (sOf q1 q2 (bAl hHeld)) (fun hHeld => ?_)
              clear hK
              refine wpAnyH_ready (rs := [4]) (by kernel_rfl) (by simp) ?_
              refine AllReadyH.cons rfl (fun K hK => ?_) ?_
              · go_simp
                refine hK.out _ _ hHeld (fun hHeld => ?_)
                clear hK
                refine leaf_wrap (X := fun W => wpAnyH _ _ _ _ _ _ _ _ W) (by first | exact leafA hac _ _ _ rfl rfl rfl | exact leafB hac _ _ _ rfl rfl rfl) (fun hL => ?_)
                refine wpAnyH_ready (rs := [21]) (by kernel_rfl) (by simp) ?_
                refine AllReadyH.cons rfl (fun K hK => ?_) AllReadyH.nil
                refine step_append_lies _ rfl (.tmp 31) (.tmp 47) 27 rfl (w.heap.size + 1) 30 ti (.pointer none) 1 8 Try.underlying27 hti hz0 hz1 hz2 rfl (by decide) v k _ rfl hL.own ⟨wr.heap.size + 1 + 1 + 1, 0, none⟩ 1 1 [.pointer (some ⟨wr.heap.size + 1 + 1, 0, none⟩)] rfl (by simp) (World.news_of_block hL.row) (by simp [Value.oneCell']) (by decide) (by unfold maxLen; omega) (by omega) (World.block_lt_of_cell? _ _ (leaf_cell hL)) _ rfl ?_
                intro g cap W2 hown2 hgrow hat hgl
                obtain ⟨hB2, hA2, hF2, hac2⟩ := after_app hL hown2 hgrow
                refine hK.out _ _ (sOf q1 q2 hB2) (fun hHeld => ?_)
                clear hK hgrow hat hL
                simp only [Act.put, List.setIfInBounds_toArray, List.set_cons_zero, List.set_cons_succ]
                refine wpAnyH_take (i := 22) (v := .pointer (some ⟨w.heap.size, 0, none⟩)) rfl (by kernel_rfl) (by kernel_rfl) (by kernel_rfl) (fun _ _ _ h => h) (Or.inl ⟨by rfl, by (intro W hSw; (try dsimp only at hSw); go_simp; try with_reducible rfl)⟩) hHeld ?_
                simp only [Act.put, List.setIfInBounds_toArray, List.set_cons_zero, List.set_cons_succ]
                refine wpAnyH_take (i := 23) (v := .pointer (some ⟨w.heap.size, 4, none⟩)) rfl (by kernel_rfl) (by kernel_rfl) (by kernel_rfl) (fun _ _ _ h => h) (Or.inl ⟨by rfl, by (intro W hSw; (try dsimp only at hSw); go_simp; try with_reducible rfl)⟩) hHeld ?_
                simp only [Act.put, List.setIfInBounds_toArray, List.set_cons_zero, List.set_cons_succ]
                refine wpAnyH_ready (rs := [24]) (by kernel_rfl) (by simp) ?_
                refine AllReadyH.cons rfl (fun K hK => ?_) AllReadyH.nil
                go_simp
                refine hK.out _ _ (sOf q1 q2 hac2.below) (fun hHeld => ?_)
                refine wpAnyH_done (by kernel_rfl) ?_ _
                clear hK hHeld
                go_wp2
                go_roundg (n - (k + 1))
                case measure => go_light; omega
                case rel => go_light; exact ⟨k + 1, _, _, by omega, rfl, by go_num, hac2⟩
              exact AllReadyH.nil
            exact AllReadyH.nil
          exact AllReadyH.nil
        exact AllReadyH.nil
      exact AllReadyH.nil
    · obtain rfl : k = n := by omega
      have hke : ¬ ((k : Int) < k) := by omega
      clear hS hG
      go_wp2
      go_ret
      obtain ⟨pa, pc, rfl, h1, h2, hP⟩ := acc_end hac
      exact newAcc_mk hac.cell.1 h1 h2 hP hac.below

end Go.Proofs.Qxb6609301a
