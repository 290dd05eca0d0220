import Derived.Test.Qxb6612369aPlain
import Derived.Test.Qxb6612369aCopy
import Derived.Test.Qxb6612369aBytes
import Derived.Deep.QuietTactic
import Derived.BigQuiet
namespace Go.Proofs.Qxb6612369a
open Go.RowKit

theorem wrap_nat (n : Int) (m : Nat) (e : n = m) (h : m ≤ 9223372036854775807) : IntKind.i64.wrap n = n := by
  rw [IntKind.wrap_i64]; omega

theorem Try.cell9 : (Try.prog.info? 9).map (·.size) = some 1 := by kernel_rfl

set_option maxRecDepth 100000 in
set_option maxHeartbeats 1000000 in
theorem layout_some (hj : JoinSaid) (a0 : Addr) (n c : Nat) (S : Nat → ByteArray) (w : World) (hn : n ≤ maxLen) (hr : Rd w (some a0) n (fun i => .string (S i))) (hs : ∀ i, i < n → (S i).size ≤ maxLen) :
    Calls Try.prog 3 #[.slice (some a0) n c] w fun e w' => e = .returned (.bool true) ∧ Below w.heap.size w w' := by
  have hn' := hn
  unfold maxLen at hn'
  go_enter Try.func3, Try.ntmps3
  go_wp2_with fail
  refine (bytes9 _ n c S w hn hr hs).mono ?_
  rintro e w' ⟨⟨bb, rfl, hbb⟩, rfl⟩
  cases bb
  · go_wp2
    go_ret
    exact ⟨rfl, Below.refl _ _⟩
  have hs20 := hbb rfl
  clear hbb hs
  by_cases h16 : 65536 < n
  · go_wp2
    go_ret
    exact ⟨rfl, Below.refl _ _⟩
  have hne := fun w => run_neq_slice_nil_any (P := Try.prog) w 22 9 (some a0) n c 0 0 Try.underlying22
  have hmk := run_make_row' (P := Try.prog) 22 9 (.string ⟨#[]⟩) 16 Try.underlying22 Try.info9 rfl .i64 .i64 n (by omega) (by omega)
  have hrow := World.rowIs_made w' (.string ⟨#[]⟩) n 9
  have hrd1 : Rd (w'.alloc (.cells (madeCells #[.string ⟨#[]⟩] n) 9)) (some a0) n (fun i => .string (S i)) := hr.below ((Below.refl w'.heap.size w').alloc (Nat.le_refl _) _) (Nat.le_refl _)
  have hone : ∀ i, i < n → (Value.string (S i)).oneCell' = true := fun i _ => rfl
  go_wp2_with (refine wpList_copy_rd rfl (.tmp 24) (.tmp 25) 22 22 rfl 9 Try.underlying22 Try.cell9 (some a0) n c w'.heap.size rfl rfl 9 _ _ hrow hrd1 hone w'.heap.size (Nat.le_refl _) ?_; intro w1 hb1 hz1 hrow1)
  clear hmk hne hrow hrd1 hone
  have hc1 : ∀ k, k < n → w1.cell? ⟨w'.heap.size, k, none⟩ = some (.string (S k)) := fun k hk => hrow1.cell hk
  have HB : Hid (Below w'.heap.size w' w1) := ((Below.refl _ _).alloc (Nat.le_refl _) _).trans hb1
  have HR : Hid (w1.rowIs w'.heap.size 9 n (fun i => .string (S i))) := hrow1
  clear hb1 hrow1 hr
  go_loop [4, 5] (fun t i => ∃ k : Nat, k ≤ n ∧ i = .int .i64 k ∧ t = .int .i64 (16 * (n : Int) + (sumLen S k : Int)) ∧ 16 * n + sumLen S k ≤ 1048576) (fun _ i => n - (intOf i).toNat)
  case atStart => exact ⟨0, Nat.zero_le _, rfl, by simp [sumLen], by simp [sumLen]; omega⟩
  case round =>
    obtain ⟨k, hk, rfl, rfl, hsz⟩ := hrel
    by_cases hlt : k < n
    · have hck := hc1 k hlt
      have hsk := hs20 k hlt
      clear hc1 hs20
      go_wp2
      · go_ret
        exact ⟨rfl, HB.out⟩
      · go_round
        case rel => exact ⟨k + 1, by omega, by go_num, by simp only [sumLen]; go_num, by simp only [sumLen]; omega⟩
        case measure => simp [intOf]; omega
    · obtain rfl : n = k := by omega
      have hwl := wantTo_le S n
      have hl : (jn S n).length ≤ 140737488355328 := by rw [jn_length]; omega
      go_wp2_with fail
      refine (zzFaults_some hj w'.heap.size 0 n n S w1 (by omega) (Rd.ofRow HR.out) hl).mono ?_
      rintro e w2 ⟨rfl, hb2⟩
      have hG0 : ∀ p v, (jn S n)[p]? = some v → ∃ h : p < (⟨(jn S n).toArray⟩ : ByteArray).size, (⟨(jn S n).toArray⟩ : ByteArray)[p] = v := fun p v h => by
        rw [List.getElem?_eq_some_iff] at h
        obtain ⟨h1, h2⟩ := h
        exact ⟨by simpa [ByteArray.size] using h1, by rw [← h2]; rfl⟩
      have hGs0 : (⟨(jn S n).toArray⟩ : ByteArray).size = wantTo S n := by rw [← jn_length]; simp [ByteArray.size]
      generalize (⟨(jn S n).toArray⟩ : ByteArray) = G at hG0 hGs0 ⊢
      have HG : Hid (∀ p v, (jn S n)[p]? = some v → ∃ h : p < G.size, G[p] = v) := hG0
      have HGs : Hid (G.size = wantTo S n) := hGs0
      have hB2 : Below w'.heap.size w' w2 := HB.out.trans (hb2.mono HB.out.size)
      have hc2 : ∀ j, j < n → w2.cell? ⟨w'.heap.size, j, none⟩ = some (.string (S j)) := fun j hj => by
        rw [hb2.cell (p := ⟨w'.heap.size, j, none⟩) HR.out.lt]; exact hc1 j hj
      have HB2 : Hid (Below w'.heap.size w' w2) := hB2
      clear hG0 hGs0 hb2 hB2 HB HR hc1 hl
      go_wp2_with fail
      go_loop [7, 8] (fun t i => ∃ k : Nat, k ≤ n ∧ i = .int .i64 k ∧ t = .int .i64 (wantTo S k : Nat)) (fun _ i => n - (intOf i).toNat)
      case atStart => exact ⟨0, Nat.zero_le _, rfl, rfl⟩
      case round =>
        obtain ⟨k, hk, rfl, rfl⟩ := hrel
        by_cases hlt : k < n
        · have hck := hc2 k hlt
          have hm := wantTo_mono S (show k + 1 ≤ n from hlt)
          have hst : wantTo S (k + 1) = wantTo S k + (if 0 < k then 2 else 0) + (S k).size := rfl
          have HS : Hid (wantTo S (k + 1) = wantTo S k + (if 0 < k then 2 else 0) + (S k).size) := hst
          have hbd : wantTo S k + (S k).size ≤ 2000000 := by
            have : wantTo S k + (S k).size ≤ wantTo S (k + 1) := by rw [hst]; omega
            omega
          clear hc2 hst hm
          by_cases h0 : 0 < k
          · go_wp2
            go_round
            case rel => exact ⟨k + 1, by omega, by go_num, by rw [HS.out, if_pos h0]; go_num⟩
            case measure => simp [intOf]; omega
          · obtain rfl : k = 0 := by omega
            go_wp2
            go_round
            case rel => exact ⟨1, by omega, by go_num, by rw [HS.out, if_neg h0]; go_num⟩
            case measure => simp [intOf]; omega
        · obtain rfl : n = k := by omega
          have hgs : (G.size : Int) = (wantTo S n : Nat) := by rw [HGs.out]
          go_wp2_with fail
          clear hgs
          go_loopg [9, 10] n (fun g t i wr => ∃ (k q : Nat), k ≤ n ∧ g = n - k ∧ i = .int .i64 k ∧ t = .int .i64 (wantTo S k : Nat) ∧ wr = w2.drewN q)
          case atStart => exact ⟨0, 0, Nat.zero_le _, rfl, rfl, rfl, rfl⟩
          case round =>
            obtain ⟨k, q, hk, rfl, rfl, rfl, rfl⟩ := hrel
            by_cases hlt : k < n
            · have hck := hc2 k hlt
              have hm := wantTo_mono S (show k + 1 ≤ n from hlt)
              have hst : wantTo S (k + 1) = wantTo S k + (if 0 < k then 2 else 0) + (S k).size := rfl
              have hsz' : G.size = wantTo S n := HGs.out
              clear hc2
              by_cases h0 : 0 < k
              · rw [if_pos h0] at hst
                have hsp := jn_sep S h0 hlt
                obtain ⟨i1, s1⟩ := HG.out _ _ hsp.1
                obtain ⟨i2, s2⟩ := HG.out _ _ hsp.2
                have hmsg : ∀ j (hj : j < (S k).size), ∃ h : wantTo S k + 2 + j < G.size, G[wantTo S k + 2 + j] = (S k)[j] := fun j hj => HG.out _ _ (by have := jn_msg S hlt hj; rwa [if_pos h0] at this)
                have HM : Hid (∀ j (hj : j < (S k).size), ∃ h : wantTo S k + 2 + j < G.size, G[wantTo S k + 2 + j] = (S k)[j]) := hmsg
                have HS : Hid (wantTo S (k + 1) = wantTo S k + 2 + (S k).size) := hst
                have hbd : wantTo S k + 2 + (S k).size ≤ G.size := by omega
                have hbd2 : G.size ≤ 2000000 := by omega
                clear hsp hmsg hst hsz' hm
                go_wp2
                go_loopg [12] (S k).size (fun g i wr => ∃ (j r : Nat), j ≤ (S k).size ∧ g = (S k).size - j ∧ i = .int .i64 j ∧ wr = w2.drewN r)
                case atStart => exact ⟨0, q, Nat.zero_le _, rfl, rfl, rfl⟩
                case round =>
                  obtain ⟨j, r, hj', rfl, rfl, rfl⟩ := hrel
                  by_cases hjl : j < (S k).size
                  · obtain ⟨i3, s3⟩ := HM.out j hjl
                    have hwr : IntKind.i64.wrap ((wantTo S k : Int) + 2 + (j : Int)) = (wantTo S k : Int) + 2 + (j : Int) := wrap_nat _ (wantTo S k + 2 + j) (by simp) (by omega)
                    have hti : ((wantTo S k : Int) + 2 + (j : Int)).toNat = wantTo S k + 2 + j := by omega
                    go_wp2
                    go_quiet (fail)
                    go_wp2
                    go_roundg ((S k).size - (j + 1))
                    case measure => go_light; omega
                    case rel => go_light; exact ⟨j + 1, _, by omega, rfl, by go_num, rfl⟩
                  · obtain rfl : j = (S k).size := by omega
                    go_wp2
                    go_roundg (n - (k + 1))
                    case measure => go_light; omega
                    case rel => go_light; exact ⟨k + 1, _, by omega, rfl, by go_num, by rw [HS.out]; go_num, rfl⟩
              · obtain rfl : k = 0 := by omega
                have hmsg : ∀ j (hj : j < (S 0).size), ∃ h : j < G.size, G[j] = (S 0)[j] := fun j hj => HG.out _ _ (by have := jn_msg S hlt hj; simpa [wantTo] using this)
                have HM : Hid (∀ j (hj : j < (S 0).size), ∃ h : j < G.size, G[j] = (S 0)[j]) := hmsg
                have HS : Hid (wantTo S (0 + 1) = (S 0).size) := by show wantTo S (0 + 1) = (S 0).size; simp [wantTo]
                have hbd : (S 0).size ≤ G.size := by have := HS.out; omega
                have hbd2 : G.size ≤ 2000000 := by omega
                have hw0 : wantTo S 0 = 0 := rfl
                clear hmsg hst hsz' hm h0
                go_wp2
                go_loopg [12] (S 0).size (fun g i wr => ∃ (j r : Nat), j ≤ (S 0).size ∧ g = (S 0).size - j ∧ i = .int .i64 j ∧ wr = w2.drewN r)
                case atStart => exact ⟨0, q, Nat.zero_le _, rfl, rfl, rfl⟩
                case round =>
                  obtain ⟨j, r, hj', rfl, rfl, rfl⟩ := hrel
                  by_cases hjl : j < (S 0).size
                  · obtain ⟨i3, s3⟩ := HM.out j hjl
                    go_wp2
                    go_quiet (fail)
                    go_wp2
                    go_roundg ((S 0).size - (j + 1))
                    case measure => go_light; omega
                    case rel => go_light; exact ⟨j + 1, _, by omega, rfl, by go_num, rfl⟩
                  · obtain rfl : j = (S 0).size := by omega
                    go_wp2
                    go_roundg (n - (0 + 1))
                    case measure => go_light; omega
                    case rel => go_light; exact ⟨0 + 1, _, by omega, rfl, by go_num, by rw [HS.out], rfl⟩
            · go_wp2
              go_ret
              exact ⟨rfl, below_drewN HB2.out _⟩

set_option maxRecDepth 100000 in
set_option maxHeartbeats 1000000 in
theorem layout_nil (hj : JoinSaid) (w : World) :
    Calls Try.prog 3 #[.slice none 0 0] w fun e w' => e = .returned (.bool true) ∧ Below w.heap.size w w' := by
  have hne := fun w => run_neq_slice_nil_any (P := Try.prog) w 22 9 none 0 0 0 0 Try.underlying22
  go_enter Try.func3, Try.ntmps3
  go_wp2_with fail
  refine (bytes9 none 0 0 (fun _ => ⟨#[]⟩) w (Nat.zero_le _) ⟨0, 0, by omega, by omega⟩ (by omega)).mono ?_
  rintro e w' ⟨⟨bb, rfl, hbb⟩, rfl⟩
  clear hbb
  cases bb
  · go_wp2
    go_ret
    exact ⟨rfl, Below.refl _ _⟩
  go_wp2
  refine wp_loop_rounds 1 ?_
  rw [rounds_succ]
  go_wp2_with fail
  refine (zzFaults_nil hj (fun _ => ⟨#[]⟩) w').mono ?_
  rintro e w2 ⟨rfl, hb2⟩
  rw [show jn (fun _ => ⟨#[]⟩) 0 = [] from rfl]
  go_wp2
  refine wp_loop_rounds 1 ?_
  rw [rounds_succ]
  go_wp2
  refine wp_loop_rounds 1 ?_
  rw [rounds_succ]
  go_wp2
  go_ret
  exact ⟨rfl, hb2⟩

end Go.Proofs.Qxb6612369a
