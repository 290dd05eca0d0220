import Derived.Test.Qxb6609301aBytes
import Derived.Laws.BitsLemmas
namespace Go.Proofs.Qxb6609301a
open Go.RowKit

def SomeBool (p : Prop) (e : Ending) : Prop := (e = .returned (.bool true) ∧ p) ∨ e = .returned (.bool false)
theorem SomeBool.yes {p : Prop} (h : p) : SomeBool p (.returned (.bool true)) := .inl ⟨rfl, h⟩
theorem SomeBool.no {p : Prop} : SomeBool p (.returned (.bool false)) := .inr rfl
theorem SomeBool.out {p : Prop} {e : Ending} (h : SomeBool p e) : ∃ b, e = .returned (.bool b) ∧ (b = true → p) := by
  rcases h with ⟨h, hp⟩ | h
  · exact ⟨_, h, fun _ => hp⟩
  · exact ⟨_, h, by simp⟩

theorem asc_of {S : Nat → ByteArray} {n : Nat} (h : ∀ j, j + 1 < n → ¬ (S (j + 1)).toList < (S j).toList) : Asc S n := by
  intro i j hij hj
  induction j with
  | zero =>
    obtain rfl : i = 0 := by omega
    exact List.lt_irrefl _
  | succ j ih =>
    by_cases e : i = j + 1
    · subst e; exact List.lt_irrefl _
    · have h1 := ih (by omega) (by omega)
      have h2 := h j hj
      exact List.not_lt.2 (List.le_trans (List.not_lt.1 h1) (List.not_lt.1 h2))

theorem not_gt {a b : ByteArray} (h : Op.bytesLess a.toList b.toList = true ∨ (a.toList == b.toList) = true) : ¬ b.toList < a.toList := by
  rcases h with h | h
  · rw [bytesLess_eq] at h
    exact List.not_lt.2 (List.le_of_lt (of_decide_eq_true h))
  · rw [eq_of_beq h]; exact List.lt_irrefl _

set_option maxRecDepth 100000 in
set_option maxHeartbeats 2000000 in
theorem ordered7 (a1 a2 : Option Addr) (n1 c1 n2 c2 : Nat) (S G : Nat → ByteArray) (w : World) (h1 : n1 ≤ 65536) (h2 : n2 ≤ 65536) (hS : Rd w a1 n1 (fun i => .string (S i))) (hG : Rd w a2 n2 (fun i => .string (G i))) :
    Calls Try.prog 7 #[.slice a1 n1 c1, .slice a2 n2 c2] w fun e w' => SomeBool (n2 = n1 ∧ Asc S n1) e ∧ ∃ q, w' = w.drewN q := by
  go_enter Try.func7, Try.ntmps7
  by_cases hne : n2 ≠ n1
  · have hb : ((n2 : Int) != (n1 : Int)) = true := by simp; omega
    go_wp2
    go_ret
    exact ⟨.no, 0, rfl⟩
  obtain rfl : n2 = n1 := by omega
  clear hne
  go_wp2
  go_loopg [5] n2 (fun g i wr => ∃ k q, k ≤ n2 ∧ g = n2 - k ∧ i = .int .i64 (k : Nat) ∧ wr = w.drewN q ∧ Hid (∀ j, j + 1 < k → ¬ (S (j + 1)).toList < (S j).toList))
  case atStart => exact ⟨0, 0, Nat.zero_le _, rfl, rfl, rfl, fun j hj => by omega⟩
  case round =>
    obtain ⟨k, q, hk, rfl, rfl, rfl, hE⟩ := hrel
    by_cases hlt : k < n2
    · obtain ⟨sb, so, rfl, _, hs⟩ := hS.one (by omega)
      obtain ⟨gb, go, rfl, _, hg⟩ := hG.one (by omega)
      have g0 := hg 0 (by omega)
      rw [Nat.add_zero] at g0
      have i3 : (0 : Int) < n2 := by omega
      by_cases hk0 : k = 0
      · subst hk0
        clear hs hg hS hG
        go_wp2
        go_quiet (fail)
        go_wp2
        go_roundg (n2 - 1)
        case measure => go_light; omega
        case rel => go_light; exact ⟨1, _, by omega, rfl, by go_num, rfl, fun j hj => by omega⟩
      · obtain ⟨j, rfl⟩ : ∃ j, k = j + 1 := ⟨k - 1, by omega⟩
        have s0 := hs j (by omega)
        have s1 := hs (j + 1) hlt
        have g2 := hg j (by omega)
        have g1 := hg (j + 1) hlt
        have i1 : (0 : Int) ≤ (j : Int) + 1 := by omega
        have i2 : (j : Int) + 1 < n2 := by omega
        have i4 : (0 : Int) ≤ j := by omega
        have i5 : (j : Int) < n2 := by omega
        have i6 : IntKind.i64.wrap ((j : Int) + 1 - 1) = j := by rw [IntKind.wrap_i64]; omega
        clear hs hg hS hG
        cases h9 : Op.bytesLess (S j).toList (S (j + 1)).toList <;> cases h10 : ((S j).toList == (S (j + 1)).toList)
        · go_wp2
          go_quiet (fail)
          go_wp2
          · go_ret
            exact ⟨.no, _, rfl⟩
          go_quiet (fail)
          go_wp2
          go_ret
          exact ⟨.no, _, rfl⟩
        · cases h11 : Op.bytesLess (G j).toList (G (j + 1)).toList
          · go_wp2
            go_quiet (fail)
            go_wp2
            · go_ret
              exact ⟨.no, _, rfl⟩
            go_quiet (fail)
            go_wp2
            go_quiet (fail)
            go_wp2
            go_ret
            exact ⟨.no, _, rfl⟩
          go_wp2
          go_quiet (fail)
          go_wp2
          · go_ret
            exact ⟨.no, _, rfl⟩
          go_quiet (fail)
          go_wp2
          go_quiet (fail)
          go_wp2
          go_roundg (n2 - (j + 1 + 1))
          case measure => go_light; omega
          case rel => go_light; exact ⟨j + 1 + 1, _, by omega, rfl, by go_num, rfl, fun i hi => by
            by_cases e : i = j
            · subst e; exact not_gt (.inr h10)
            · exact hE.out i (by omega)⟩
        · go_wp2
          go_quiet (fail)
          go_wp2
          · go_ret
            exact ⟨.no, _, rfl⟩
          go_quiet (fail)
          go_wp2
          go_quiet (fail)
          go_wp2
          go_roundg (n2 - (j + 1 + 1))
          case measure => go_light; omega
          case rel => go_light; exact ⟨j + 1 + 1, _, by omega, rfl, by go_num, rfl, fun i hi => by
            by_cases e : i = j
            · subst e; exact not_gt (.inl h9)
            · exact hE.out i (by omega)⟩
        · cases h11 : Op.bytesLess (G j).toList (G (j + 1)).toList
          · go_wp2
            go_quiet (fail)
            go_wp2
            · go_ret
              exact ⟨.no, _, rfl⟩
            go_quiet (fail)
            go_wp2
            go_quiet (fail)
            go_wp2
            go_ret
            exact ⟨.no, _, rfl⟩
          go_wp2
          go_quiet (fail)
          go_wp2
          · go_ret
            exact ⟨.no, _, rfl⟩
          go_quiet (fail)
          go_wp2
          go_quiet (fail)
          go_wp2
          go_roundg (n2 - (j + 1 + 1))
          case measure => go_light; omega
          case rel => go_light; exact ⟨j + 1 + 1, _, by omega, rfl, by go_num, rfl, fun i hi => by
            by_cases e : i = j
            · subst e; exact not_gt (.inl h9)
            · exact hE.out i (by omega)⟩
    · obtain rfl : k = n2 := by omega
      have hkn : ¬ ((k : Int) < k) := by omega
      clear hS hG
      go_wp2
      go_ret
      exact ⟨.yes (asc_of hE.out), _, rfl⟩

end Go.Proofs.Qxb6609301a
