import Derived.Test.Qxb6612369aHasSep
import Derived.Test.Qxb6612369aLayout
import Derived.Lib.IndexBytes
namespace Go.Proofs.Qxb6612369a
open Go.RowKit

theorem piece_eq {G s : ByteArray} {a : Nat} (h : (G.data.toList.drop a).take s.size = s.data.toList) : G.extract a (a + s.size) = s := by
  rw [Lib.extract_eq, Nat.add_sub_cancel_left, h]

theorem tail_eq {G s : ByteArray} {a : Nat} (h : G.data.toList.drop a = s.data.toList) : G.extract a G.size = s := by
  have := Lib.extract_to_end G a
  rw [h] at this
  have e : (G.extract a G.size).data = s.data := by
    apply Array.toList_inj.1 this
  cases hx : G.extract a G.size
  cases s
  simp_all

set_option maxRecDepth 100000 in
set_option maxHeartbeats 2000000 in
theorem split_some (hj : JoinSaid) (a0 : Addr) (n c : Nat) (S : Nat → ByteArray) (w : World) (hn : n ≤ maxLen) (hr : Rd w (some a0) n (fun i => .string (S i))) (hs : ∀ i, i < n → (S i).size ≤ maxLen) :
    Calls Try.prog 4 #[.slice (some a0) n c] w fun e w' => e = .returned (.bool true) ∧ Below w.heap.size w w' := by
  have hn' := hn
  unfold maxLen at hn'
  go_enter Try.func4, Try.ntmps4
  go_wp2_with fail
  refine (bytes11 _ n c S w hn hr hs).mono ?_
  rintro e w' ⟨⟨bb, rfl, hbb⟩, rfl⟩
  cases bb
  · go_wp2
    go_ret
    exact ⟨rfl, Below.refl _ _⟩
  have hs20 := hbb rfl
  clear hbb hs
  by_cases h16 : 65536 < n
  · go_wp2
    go_ret
    exact ⟨rfl, Below.refl _ _⟩
  have hne := fun w => run_neq_slice_nil_any (P := Try.prog) w 22 9 (some a0) n c 0 0 Try.underlying22
  have hmk := run_make_row' (P := Try.prog) 22 9 (.string ⟨#[]⟩) 16 Try.underlying22 Try.info9 rfl .i64 .i64 n (by omega) (by omega)
  have hrow := World.rowIs_made w' (.string ⟨#[]⟩) n 9
  have hrd1 : Rd (w'.alloc (.cells (madeCells #[.string ⟨#[]⟩] n) 9)) (some a0) n (fun i => .string (S i)) := hr.below ((Below.refl w'.heap.size w').alloc (Nat.le_refl _) _) (Nat.le_refl _)
  have hone : ∀ i, i < n → (Value.string (S i)).oneCell' = true := fun i _ => rfl
  go_wp2_with (refine wpList_copy_rd rfl (.tmp 22) (.tmp 23) 22 22 rfl 9 Try.underlying22 Try.cell9 (some a0) n c w'.heap.size rfl rfl 9 _ _ hrow hrd1 hone w'.heap.size (Nat.le_refl _) ?_; intro w1 hb1 hz1 hrow1)
  clear hmk hne hrow hrd1 hone
  have hc1 : ∀ k, k < n → w1.cell? ⟨w'.heap.size, k, none⟩ = some (.string (S k)) := fun k hk => hrow1.cell hk
  have HB : Hid (Below w'.heap.size w' w1) := ((Below.refl _ _).alloc (Nat.le_refl _) _).trans hb1
  have HR : Hid (w1.rowIs w'.heap.size 9 n (fun i => .string (S i))) := hrow1
  clear hb1 hrow1 hr
  go_loop [4, 5] (fun t i => ∃ k : Nat, k ≤ n ∧ i = .int .i64 k ∧ t = .int .i64 (16 * (n : Int) + (sumLen S k : Int)) ∧ 16 * n + sumLen S k ≤ 1048576) (fun _ i => n - (intOf i).toNat)
  case atStart => exact ⟨0, Nat.zero_le _, rfl, by simp [sumLen], by simp [sumLen]; omega⟩
  case round =>
    obtain ⟨k, hk, rfl, rfl, hsz⟩ := hrel
    by_cases hlt : k < n
    · have hck := hc1 k hlt
      have hsk := hs20 k hlt
      clear hc1 hs20
      go_wp2
      · go_ret
        exact ⟨rfl, HB.out⟩
      · go_round
        case rel => exact ⟨k + 1, by omega, by go_num, by simp only [sumLen]; go_num, by simp only [sumLen]; omega⟩
        case measure => simp [intOf]; omega
    · obtain rfl : n = k := by omega
      have hwl := wantTo_le S n
      have hl : (jn S n).length ≤ 140737488355328 := by rw [jn_length]; omega
      go_wp2
      go_loop [6] (fun i => ∃ k : Nat, k ≤ n ∧ i = .int .i64 k ∧ Hid (∀ j, j < k → NoSep (S j))) (fun i => n - (intOf i).toNat)
      case atStart => exact ⟨0, Nat.zero_le _, rfl, fun j hj => absurd hj (Nat.not_lt_zero _)⟩
      case round =>
        obtain ⟨k, hk, rfl, hall⟩ := hrel
        by_cases hlt : k < n
        · have hck := hc1 k hlt
          have hsk := hs20 k hlt
          clear hc1 hs20
          go_wp2_with fail
          refine (hasSep12 (S k) w1 hsk).mono ?_
          rintro e w2 ⟨⟨bb, rfl, hbb⟩, rfl⟩
          cases bb
          · have HN : Hid (NoSep (S k)) := hbb rfl
            clear hbb
            go_wp2
            go_round
            case rel => exact ⟨k + 1, by omega, by go_num, fun j hj => by
                by_cases e : j = k
                · subst e; exact HN.out
                · exact hall.out j (by omega)⟩
            case measure => simp [intOf]; omega
          · clear hbb
            go_wp2
            go_ret
            exact ⟨rfl, HB.out⟩
        · obtain rfl : n = k := by omega
          clear hs20
          go_wp2_with fail
          refine (zzFaults_some hj w'.heap.size 0 n n S w1 (by omega) (Rd.ofRow HR.out) hl).mono ?_
          rintro e w2 ⟨rfl, hb2⟩
          have hGl : (⟨(jn S n).toArray⟩ : ByteArray).data.toList = jn S n := rfl
          have hB2 : Below w'.heap.size w' w2 := HB.out.trans (hb2.mono HB.out.size)
          have hc2 : ∀ j, j < n → w2.cell? ⟨w'.heap.size, j, none⟩ = some (.string (S j)) := fun j hj => by
            rw [hb2.cell (p := ⟨w'.heap.size, j, none⟩) HR.out.lt]; exact hc1 j hj
          have HB2 : Hid (Below w'.heap.size w' w2) := hB2
          clear hb2 hB2 HB HR hc1 hl
          by_cases hn0 : n = 0
          · subst hn0
            rw [show jn S 0 = [] from rfl]
            clear hGl hc2
            go_wp2
            go_ret
            exact ⟨rfl, HB2.out⟩
          generalize (⟨(jn S n).toArray⟩ : ByteArray) = G at hGl ⊢
          have HG : Hid (∀ p v, (jn S n)[p]? = some v → ∃ h : p < G.size, G[p] = v) := fun p v h => by
            rw [← hGl, List.getElem?_eq_some_iff] at h
            obtain ⟨h1, h2⟩ := h
            exact ⟨by rw [size_toList] at h1; exact h1, by rw [← h2]; rfl⟩
          have hGs : G.size = wantTo S n := by rw [← jn_length, ← hGl, size_toList]
          have HGs : Hid (G.size = wantTo S n) := hGs
          have hG2 : G.size ≤ 2000000 := by omega
          have HGl : Hid (G.data.toList = jn S n) := hGl
          have hnz : ((n : Int) == 0) = false := by rw [beq_eq_false_iff_ne]; omega
          have HALL := hall
          clear hGl hGs hall hwl
          go_wp2
          go_loopg [8, 9, 10] G.size (fun g0 t8 t9 t10 wr => ∃ (k j q T i : Nat), k < n ∧ j ≤ (S k).size ∧ g0 = G.size - i ∧ t8 = .int .i64 k ∧ t9 = .int .i64 T ∧ t10 = .int .i64 i ∧ wr = w2.drewN q ∧ Hid (T = stTo S k ∧ i = T + j))
          case atStart => exact ⟨0, 0, 0, 0, 0, by omega, Nat.zero_le _, rfl, rfl, rfl, rfl, rfl, rfl, rfl⟩
          case round =>
            obtain ⟨k, j, q, T, i, hk, hj', rfl, rfl, rfl, rfl, rfl, hT⟩ := hrel
            obtain ⟨hT1, hT2⟩ := hT.out
            have hTle := stTo_le S hk
            rw [← hT1, ← HGs.out] at hTle
            have hck := hc2 k hk
            by_cases hlast : k + 1 < n
            · have hnx := stTo_next S hlast
              rw [← hT1, ← HGs.out] at hnx
              have hsep := jn_sep' S hlast
              rw [← hT1] at hsep
              by_cases hjs : j < (S k).size
              · have m1 := HG.out (T + j) _ (by rw [hT1]; exact jn_msg' S hk hjs)
                rw [← hT2] at m1
                obtain ⟨i1, s1⟩ := m1
                have hA : ∃ h : i + 1 < G.size, (G[i] = 59 → G[i + 1] ≠ 32) := by
                  by_cases hj2 : j + 1 < (S k).size
                  · obtain ⟨i2, s2⟩ := HG.out (T + (j + 1)) _ (by rw [hT1]; exact jn_msg' S hk hj2)
                    have e : T + (j + 1) = i + 1 := by omega
                    refine ⟨by omega, fun h1 h2 => HALL.out k hk j hj2 ⟨by rw [← s1]; exact h1, ?_⟩⟩
                    rw [← s2, ← h2]; congr 1
                  · obtain ⟨i2, s2⟩ := HG.out _ _ hsep.1
                    have e : T + (S k).size = i + 1 := by omega
                    refine ⟨by omega, fun _ h2 => ?_⟩
                    have : G[i + 1]'(by omega) = 59 := by rw [← s2]; congr 1; omega
                    rw [h2] at this; exact absurd this (by decide)
                obtain ⟨i2, hA2⟩ := hA
                have HT : Hid (T = stTo S k ∧ i = T + j) := ⟨hT1, hT2⟩
                clear hT hT1 hT2 hsep hnx hTle hc2 hck s1 HG HGs HGl HALL
                by_cases h59 : G[i] = 59
                · have h32 : ((G[i + 1].toNat : Int) == 32) = false := byte_ne (c := 32) (hA2 h59)
                  clear hA2
                  go_wp2
                  go_roundg (G.size - (i + 1))
                  case measure => go_light; omega
                  case rel => go_light; exact ⟨k, j + 1, q, T, i + 1, hk, by omega, rfl, rfl, rfl, by go_num, rfl, HT.out.1, by have := HT.out.2; omega⟩
                · have h59' : ((G[i].toNat : Int) == 59) = false := byte_ne (c := 59) h59
                  clear hA2 h59
                  go_wp2
                  go_roundg (G.size - (i + 1))
                  case measure => go_light; omega
                  case rel => go_light; exact ⟨k, j + 1, q, T, i + 1, hk, by omega, rfl, rfl, rfl, by go_num, rfl, HT.out.1, by have := HT.out.2; omega⟩
              · obtain rfl : j = (S k).size := by omega
                rw [← hT2] at hsep hnx hTle
                obtain ⟨i1, s1⟩ := HG.out _ _ hsep.1
                obtain ⟨i2, s2⟩ := HG.out _ _ hsep.2
                have hpc : G.extract T i = S k := by rw [hT2]; exact piece_eq (by rw [HGl.out, hT1]; exact jn_piece S hk)
                have HT : Hid (i + 2 = stTo S (k + 1)) := by show _ = _; rw [stTo_succ, hT2, hT1]
                have hTi : T ≤ i := by omega
                clear hT hT1 hT2 hsep hc2 HG HGs HGl HALL
                have hkn : ¬ ((n : Int) - 1 ≤ (k : Int)) := by omega
                go_wp2
                go_quiet (fail)
                go_wp2
                go_roundg (G.size - (i + 2))
                case measure => go_light; omega
                case rel => go_light; exact ⟨k + 1, 0, _, i + 2, i + 2, by omega, Nat.zero_le _, rfl, by go_num, by go_num, by go_num, rfl, HT.out, rfl⟩
            · have hnk : n = k + 1 := by omega
              have hend : T + (S k).size = G.size := by rw [HGs.out, hT1, hnk, wantTo_succ]
              by_cases hi1 : i + 1 < G.size
              · have hjs : j + 1 < (S k).size := by omega
                have m1 := HG.out (T + j) _ (by rw [hT1]; exact jn_msg' S hk (by omega))
                rw [← hT2] at m1
                obtain ⟨i1, s1⟩ := m1
                have hA2 : G[i] = 59 → G[i + 1] ≠ 32 := by
                  obtain ⟨i2, s2⟩ := HG.out (T + (j + 1)) _ (by rw [hT1]; exact jn_msg' S hk hjs)
                  have e : T + (j + 1) = i + 1 := by omega
                  refine fun h1 h2 => HALL.out k hk j hjs ⟨by rw [← s1]; exact h1, ?_⟩
                  rw [← s2, ← h2]; congr 1
                have HT : Hid (T = stTo S k ∧ i = T + j) := ⟨hT1, hT2⟩
                clear hT hT1 hT2 hTle hc2 hck s1 HG HGs HGl HALL hend hnk
                by_cases h59 : G[i] = 59
                · have h32 : ((G[i + 1].toNat : Int) == 32) = false := byte_ne (c := 32) (hA2 h59)
                  clear hA2
                  go_wp2
                  go_roundg (G.size - (i + 1))
                  case measure => go_light; omega
                  case rel => go_light; exact ⟨k, j + 1, q, T, i + 1, hk, by omega, rfl, rfl, rfl, by go_num, rfl, HT.out.1, by have := HT.out.2; omega⟩
                · have h59' : ((G[i].toNat : Int) == 59) = false := byte_ne (c := 59) h59
                  clear hA2 h59
                  go_wp2
                  go_roundg (G.size - (i + 1))
                  case measure => go_light; omega
                  case rel => go_light; exact ⟨k, j + 1, q, T, i + 1, hk, by omega, rfl, rfl, rfl, by go_num, rfl, HT.out.1, by have := HT.out.2; omega⟩
              · have hi1' : ¬ ((i : Int) + 1 < (G.size : Int)) := by omega
                have hpc : G.extract T G.size = S k := tail_eq (by rw [HGl.out, hT1, hnk]; exact jn_last S k)
                have hTG : T ≤ G.size := by omega
                have hib : i ≤ G.size := by omega
                have hidx : ((k : Int) == (n : Int) - 1) = true := by rw [beq_iff_eq]; omega
                clear hT hT1 hT2 hTle hc2 HG HGs HGl HALL hend hi1 hnk
                go_wp2
                go_quiet (fail)
                go_wp2
                go_ret
                exact ⟨rfl, below_drewN (below_drewN HB2.out _) _⟩

set_option maxRecDepth 100000 in
set_option maxHeartbeats 1000000 in
theorem split_nil (hj : JoinSaid) (w : World) :
    Calls Try.prog 4 #[.slice none 0 0] w fun e w' => e = .returned (.bool true) ∧ Below w.heap.size w w' := by
  have hne := fun w => run_neq_slice_nil_any (P := Try.prog) w 22 9 none 0 0 0 0 Try.underlying22
  go_enter Try.func4, Try.ntmps4
  go_wp2_with fail
  refine (bytes11 none 0 0 (fun _ => ⟨#[]⟩) w (Nat.zero_le _) ⟨0, 0, by omega, by omega⟩ (by omega)).mono ?_
  rintro e w' ⟨⟨bb, rfl, hbb⟩, rfl⟩
  clear hbb
  cases bb
  · go_wp2
    go_ret
    exact ⟨rfl, Below.refl _ _⟩
  go_wp2
  refine wp_loop_rounds 1 ?_
  rw [rounds_succ]
  go_wp2
  refine wp_loop_rounds 1 ?_
  rw [rounds_succ]
  go_wp2_with fail
  refine (zzFaults_nil hj (fun _ => ⟨#[]⟩) w').mono ?_
  rintro e w2 ⟨rfl, hb2⟩
  rw [show jn (fun _ => ⟨#[]⟩) 0 = [] from rfl]
  go_wp2
  go_ret
  exact ⟨rfl, hb2⟩

end Go.Proofs.Qxb6612369a
