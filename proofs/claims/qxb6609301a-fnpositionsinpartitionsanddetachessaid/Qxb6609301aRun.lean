import Derived.Test.Qxb6609301aSearch
namespace Go.Proofs.Qxb6609301a
open Go.RowKit

theorem cmpS_neg (a b : ByteArray) : cmpS a b < 0 ↔ a.toList < b.toList := by
  unfold cmpS
  rw [bytesLess_eq]
  by_cases h : a.toList < b.toList
  · simp [h]
  · simp only [h, decide_false, Bool.false_eq_true, if_false, iff_false]
    split <;> omega

theorem cmpS_zero (a b : ByteArray) : cmpS a b = 0 ↔ a.toList = b.toList := by
  unfold cmpS
  rw [bytesLess_eq]
  by_cases h : a.toList < b.toList
  · have hne : a.toList ≠ b.toList := fun e => by rw [e] at h; exact List.lt_irrefl _ h
    simp [h, hne]
  · by_cases e : a.toList = b.toList
    · simp [e, List.lt_irrefl]
    · simp [h, e]

theorem ck_neg (s g c : ByteArray) : ck s g c ⟨#[]⟩ < 0 ↔ s.toList < c.toList := by
  unfold ck orI
  split
  · next h =>
    have hz := (cmpS_zero s c).1 h
    rw [hz]
    constructor
    · intro h2
      have := (cmpS_neg g ⟨#[]⟩).1 h2
      rw [show (⟨#[]⟩ : ByteArray).toList = [] from by rw [ByteArray.toList_eq]] at this
      exact absurd this (List.not_lt_nil _)
    · intro h2; exact absurd h2 (List.lt_irrefl _)
  · exact cmpS_neg s c

/-- the symbols never fall -/
def Asc (S : Nat → ByteArray) (n : Nat) : Prop := ∀ i j, i ≤ j → j < n → ¬ (S j).toList < (S i).toList

/-- the run i .. j of the symbol c -/
structure Run (S : Nat → ByteArray) (c : ByteArray) (n i j : Nat) : Prop where
  le : i ≤ j
  bd : j ≤ n
  lt : ∀ t, t < i → (S t).toList < c.toList
  eq : ∀ t, i ≤ t → t < j → (S t).toList = c.toList
  ge : ∀ t, i ≤ t → t < n → ¬ (S t).toList < c.toList
  ne : j < n → (S j).toList ≠ c.toList

theorem asc_mon {S G : Nat → ByteArray} {n : Nat} (h : Asc S n) (c : ByteArray) : ∀ i j, i ≤ j → j < n → ck (S j) (G j) c ⟨#[]⟩ < 0 → ck (S i) (G i) c ⟨#[]⟩ < 0 := by
  intro i j hij hj hq
  rw [ck_neg] at hq ⊢
  have hn := h i j hij hj
  by_cases e : (S i).toList = (S j).toList
  · rw [e]; exact hq
  · by_cases h1 : (S i).toList < (S j).toList
    · exact List.lt_trans h1 hq
    · exact absurd (List.le_antisymm (List.not_lt.1 hn) (List.not_lt.1 h1)) e

theorem run_of {S G : Nat → ByteArray} {c : ByteArray} {n i k : Nat} (hF : Found S G c ⟨#[]⟩ n i) (h1 : i ≤ k) (h2 : k ≤ n) (he : ∀ t, i ≤ t → t < k → (S t).toList = c.toList) (hne : k < n → (S k).toList ≠ c.toList) : Run S c n i k :=
  ⟨h1, h2, fun t ht => (ck_neg _ _ _).1 (hF.2.1 t ht), he, fun t h3 h4 h5 => hF.2.2 t h3 h4 ((ck_neg _ _ _).2 h5), hne⟩

theorem rd_zero {w : World} {a : Option Addr} {n : Nat} {f : Nat → Value} (h : n = 0) : Rd w a n f := ⟨0, 0, by omega, by omega⟩

theorem rd_part {w : World} {pb po n i k : Nat} {f : Nat → Value} (hk : k ≤ n) (h : ∀ t, t < n → w.cell? ⟨pb, po + t, none⟩ = some (f t)) : Rd w (some ⟨pb, po + i, none⟩) (k - i) (fun t => f (i + t)) :=
  ⟨pb, po + i, fun _ => rfl, fun t ht => by rw [Nat.add_assoc]; exact h (i + t) (by omega)⟩

set_option maxRecDepth 100000 in
set_option maxHeartbeats 1000000 in
theorem posIn13 (ab : Nat) (pa : Option Addr) (n pc : Nat) (P : Nat → Nat) (S G : Nat → ByteArray) (c : ByteArray) (w : World) (hn : n ≤ 65536) (hcap : n ≤ pc) (hnil : pa = none → n = 0 ∧ pc = 0) (ha : w.cell? ⟨ab, 4, none⟩ = some (.slice pa n pc)) (hP : Poss w pa n P S G) (hA : Asc S n) :
    Calls Try.prog 13 #[.pointer (some ⟨ab, 0, none⟩), .string c] w fun e w' => ∃ ra i j, e = .returned (.slice ra (j - i) (j - i)) ∧ Run S c n i j ∧ Rd w' ra (j - i) (fun t => .pointer (some ⟨P (i + t), 0, none⟩)) ∧ Below w.heap.size w w' := by
  have c15 := search15 ab pa n pc P S G c ⟨#[]⟩ w hn ha hP (asc_mon hA c)
  clear hA
  go_enter Try.func13, Try.ntmps13
  go_wp2_with fail
  refine c15.mono ?_
  rintro e w1 ⟨i0, ⟨b, rfl⟩, hF, hb1⟩
  have hi0 := hF.1
  have HF : Hid (Found S G c ⟨#[]⟩ n i0) := hF
  have hP1 := hP.below hb1 (Nat.le_refl _)
  have ha1 : w1.cell? ⟨ab, 4, none⟩ = some (.slice pa n pc) := by rw [hb1.cell (p := ⟨ab, 4, none⟩) (World.block_lt_of_cell? _ _ ha)]; exact ha
  clear hF hP ha c15
  go_wp2
  go_loop [7] (fun vj => ∃ k : Nat, i0 ≤ k ∧ k ≤ n ∧ vj = .int .i64 k ∧ Hid (∀ t, i0 ≤ t → t < k → (S t).toList = c.toList)) (fun vj => n - (intOf vj).toNat)
  case atStart => exact ⟨i0, Nat.le_refl _, hi0, rfl, fun t h1 h2 => by omega⟩
  case round =>
    obtain ⟨k, hk1, hk2, rfl, hE⟩ := hrel
    by_cases hlt : k < n
    · obtain ⟨pb, po, rfl, hpb, hcell⟩ := hP1.rd.one (by omega)
      have hck := hcell k hlt
      obtain ⟨cp, q9, q10, q0, _, _⟩ := (hP1.pos k hlt).cells
      cases he : ((S k).toList == c.toList)
      · have hne : (S k).toList ≠ c.toList := fun e => by rw [e] at he; simp at he
        have HR : Hid (Run S c n i0 k) := run_of HF.out hk1 hk2 hE.out fun _ => hne
        have HD : Hid (Rd w1 (some ⟨pb, po + i0, none⟩) (k - i0) (fun t => .pointer (some ⟨P (i0 + t), 0, none⟩))) := rd_part hk2 hcell
        clear hE hcell hP1
        by_cases h0 : k = i0
        · subst h0
          go_wp2
          all_goals go_ret
          all_goals exact ⟨some ⟨pb, po, none⟩, k, k, by first | rfl | simp, HR.out, rd_zero (by omega), hb1⟩
        · go_wp2
          all_goals go_ret
          all_goals exact ⟨_, i0, k, rfl, HR.out, HD.out, hb1⟩
      · have hek : (S k).toList = c.toList := eq_of_beq he
        clear hcell hP1
        go_wp2
        go_round
        case rel => exact ⟨k + 1, by omega, by omega, by go_num, fun t h1 h2 => by
          by_cases e : t = k
          · subst e; exact hek
          · exact hE.out t h1 (by omega)⟩
        case measure => simp [intOf]; omega
    · obtain rfl : k = n := by omega
      have hkn : ¬ ((k : Int) < k) := by omega
      have HR : Hid (Run S c k i0 k) := run_of HF.out hk1 hk2 hE.out fun h => absurd h (Nat.lt_irrefl _)
      cases pa with
      | none =>
        obtain ⟨rfl, rfl⟩ := hnil rfl
        obtain rfl : i0 = 0 := by omega
        clear hP1
        go_wp2
        all_goals go_ret
        all_goals exact ⟨_, 0, 0, rfl, HR.out, rd_zero (by omega), hb1⟩
      | some x =>
        by_cases h0 : k = i0
        · subst h0
          clear hP1
          go_wp2
          all_goals go_ret
          all_goals exact ⟨some x, k, k, by first | rfl | simp, HR.out, rd_zero (by omega), hb1⟩
        · obtain ⟨pb, po, e, hpb, hcell⟩ := hP1.rd.one (by omega)
          obtain rfl : x = ⟨pb, po, none⟩ := by simpa using e
          have HD : Hid (Rd w1 (some ⟨pb, po + i0, none⟩) (k - i0) (fun t => .pointer (some ⟨P (i0 + t), 0, none⟩))) := rd_part hk2 hcell
          clear hcell hP1 hE
          go_wp2
          all_goals go_ret
          all_goals exact ⟨_, i0, k, rfl, HR.out, HD.out, hb1⟩

theorem posIn10 (ab : Nat) (pa : Option Addr) (n pc : Nat) (P : Nat → Nat) (S G : Nat → ByteArray) (c : ByteArray) (w : World) (hn : n ≤ 65536) (hcap : n ≤ pc) (hnil : pa = none → n = 0 ∧ pc = 0) (ha : w.cell? ⟨ab, 4, none⟩ = some (.slice pa n pc)) (hP : Poss w pa n P S G) (hA : Asc S n) :
    Calls Try.prog 10 #[.pointer (some ⟨ab, 0, none⟩), .string c] w fun e w' => ∃ ra i j, e = .returned (.slice ra (j - i) (j - i)) ∧ Run S c n i j ∧ Rd w' ra (j - i) (fun t => .pointer (some ⟨P (i + t), 0, none⟩)) ∧ Below w.heap.size w w' := by
  have c13 := posIn13 ab pa n pc P S G c w hn hcap hnil ha hP hA
  clear hP hA
  go_enter Try.func10, Try.ntmps10
  go_wp2_with fail
  refine c13.mono ?_
  rintro e w1 ⟨ra, i, j, rfl, hR, hD, hb⟩
  have HR : Hid (Run S c n i j) := hR
  clear hR c13
  go_wp2
  go_ret
  exact ⟨ra, i, j, rfl, HR.out, hD, hb⟩

theorem positions9 (ab : Nat) (v : Value) (a : Option Addr) (n c : Nat) (w : World) (hv : v = .slice a n c) (ha : w.cell? ⟨ab, 4, none⟩ = some v) :
    Calls Try.prog 9 #[.pointer (some ⟨ab, 0, none⟩)] w fun e w' => e = .returned v ∧ w' = w := by
  subst hv
  go_enter Try.func9, Try.ntmps9
  go_wp2
  go_ret
  exact ⟨rfl, rfl⟩

end Go.Proofs.Qxb6609301a
