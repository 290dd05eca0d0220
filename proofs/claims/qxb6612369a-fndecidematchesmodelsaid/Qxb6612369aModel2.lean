import Derived.Test.Qxb6612369aModel
namespace Go.Proofs.Qxb6612369a
open Go.RowKit

set_option maxRecDepth 100000 in
set_option maxHeartbeats 2000000 in
theorem model_many (n m : Nat) (C : Nat → Bool) (P : Nat → Int) (ha : Option Addr) (hcp : Nat) (ga : Option Addr) (gc : Nat) (pa : Option Addr) (pc : Nat) (w : World)
    (hn : n ≤ 131072) (hH : Rd w ha n (fun i => .bool (C i))) (hP : Rd w pa n (fun j => .int .i64 (P j))) (f : Nat) (hf : nFail P n = f) (hf2 : 2 ≤ f) :
    Calls Try.prog 16 #[.slice ha n hcp, .slice ga m gc, .slice pa n pc] w fun e w' => ∃ g,
      e = .returned (.tuple #[.slice (some ⟨g, 0, none⟩) n n, .bool false]) ∧ w'.rowIs g 3 n (fun i => .int .i64 (dflt (C i) (P i))) ∧ Below w.heap.size w w' := by
  have HF : Hid (nFail P n = f) := hf
  clear hf
  have hmk := run_make_row' (P := Try.prog) 28 3 (.int .i64 0) 8 Try.underlying28 Try.info3 rfl .i64 .i64 n (by omega) (by omega)
  go_enter Try.func16, Try.ntmps16
  go_wp2
  go_loop [9, 10] (fun t i => ∃ k : Nat, k ≤ n ∧ i = .int .i64 k ∧ t = .int .i64 (nFail P k : Nat)) (fun _ i => n - (intOf i).toNat)
  case atStart => exact ⟨0, Nat.zero_le _, rfl, rfl⟩
  case round =>
    obtain ⟨k, hk, rfl, rfl⟩ := hrel
    by_cases hlt : k < n
    · obtain ⟨b2, o2, rfl, hbl2, hc2⟩ := hP.one (by omega)
      have hck := hc2 k hlt
      have hle := nFail_le P k
      clear hc2 hP hH hmk
      by_cases h3 : P k = 3
      · rw [h3] at hck
        go_wp2
        go_round
        case rel => exact ⟨k + 1, by omega, by go_num, by simp only [nFail]; rw [if_pos h3]; go_num⟩
        case measure => simp [intOf]; omega
      · have h3' : (P k == 3) = false := by simp [h3]
        go_wp2
        go_round
        case rel => exact ⟨k + 1, by omega, by go_num, by simp only [nFail]; rw [if_neg h3]; go_num⟩
        case measure => simp [intOf]; omega
    · obtain rfl : n = k := by omega
      rw [HF.out]
      have hfle : f ≤ n := by rw [← HF.out]; exact nFail_le P n
      have hfz : ((f : Int) == 0) = false := by rw [beq_eq_false_iff_ne]; omega
      have hf1 : ((f : Int) == 1) = false := by rw [beq_eq_false_iff_ne]; omega
      go_wp2
      clear hmk
      go_loopg [20] n (fun g i wr => ∃ k : Nat, k ≤ n ∧ g = n - k ∧ i = .int .i64 k ∧ OutM w wr n (fun i => dflt (C i) (P i)) k)
      case atStart => exact ⟨0, Nat.zero_le _, rfl, rfl, outM_start w n _⟩
      case round =>
        obtain ⟨k, hk, rfl, rfl, hO⟩ := hrel
        by_cases hlt : k < n
        · obtain ⟨b2, o2, rfl, hbl2, hc2⟩ := (hP.below hO.below (Nat.le_refl _)).one (by omega)
          obtain ⟨b3, o3, rfl, hbl3, hc3⟩ := (hH.below hO.below (Nat.le_refl _)).one (by omega)
          have e2 := hc2 k hlt
          have e3 := hc3 k hlt
          have c3 : wr.cell? ⟨w.heap.size, k, none⟩ = some (.int .i64 0) := by rw [hO.row.cell hlt]; simp [uptoI]
          have c4 : wr.frozen? ⟨w.heap.size, k, none⟩ = false := hO.row.frozen k
          have c26 := dflt26 (P k) (C k) wr.drew
          clear hc2 hc3 hP hH
          go_wp2
          go_region_with (go_at_call 26; refine c26.mono ?_; rintro e w' ⟨rfl, rfl⟩)
          all_goals go_wp2
          all_goals
            (go_roundg (n - (k + 1))
             case measure => go_light; omega
             case rel => go_light; exact ⟨k + 1, by omega, rfl, by go_num, outM_step (outM_drew hO)⟩)
        · obtain rfl : n = k := by omega
          clear hP hH
          go_wp2
          go_ret2
          exact ⟨_, rfl, outM_done hO, hO.below⟩

def accB (o : Option Nat) (m : Nat) : Bool := match o with | some _ => true | none => m == 0
def stB (C : Nat → Bool) (P : Nat → Int) (R : Nat → Nat → Int) (o : Option Nat) (i : Nat) : Int := match o with | some x => R x i | none => dflt (C i) (P i)

def bv : Option Nat → Int
  | none => -1
  | some b => b

theorem bestTo_lt {f : Nat → Nat} {fit : Nat → Bool} {k b : Nat} (h : bestTo f fit k = some b) : b < k := by
  induction k with
  | zero => simp [bestTo] at h
  | succ k ih =>
    simp only [bestTo] at h
    split at h
    · split at h
      · simp at h; omega
      · next c hc =>
        split at h
        · simp at h; omega
        · simp at h; subst h; have := ih hc; omega
    · have := ih h; omega

set_option maxRecDepth 100000 in
set_option maxHeartbeats 4000000 in
theorem model_one (n m : Nat) (C : Nat → Bool) (P : Nat → Int) (R : Nat → Nat → Int) (ha : Option Addr) (hcp : Nat) (ga : Option Addr) (gc : Nat) (A : Nat → Option Addr) (Cp : Nat → Nat) (pa : Option Addr) (pc : Nat) (w : World)
    (hn : n ≤ 131072) (hm : m ≤ 65536) (hH : Rd w ha n (fun i => .bool (C i))) (hG : Rd w ga m (fun k => .slice (A k) n (Cp k))) (hR : ∀ k, k < m → Rd w (A k) n (fun j => .int .i64 (R k j))) (hP : Rd w pa n (fun j => .int .i64 (P j))) (hf : nFail P n = 1) (hn0 : 0 < n) :
    Calls Try.prog 16 #[.slice ha n hcp, .slice ga m gc, .slice pa n pc] w fun e w' => ∃ g,
      e = .returned (.tuple #[.slice (some ⟨g, 0, none⟩) n n, .bool (accB (bestTo (fun x => key P (R x) n) (fun k => allTo (fun i => fs (C i) (P i) (R k i)) n) m) m)]) ∧
        w'.rowIs g 3 n (fun i => .int .i64 (stB C P R (bestTo (fun x => key P (R x) n) (fun k => allTo (fun i => fs (C i) (P i) (R k i)) n) m) i)) ∧ Below w.heap.size w w' := by
  have HF : Hid (nFail P n = 1) := hf
  clear hf
  have hcm : ∀ X Y, cmFrom P X Y 0 n = decide (key P Y n < key P X n) := fun X Y => by rw [cmFrom_key P X Y 0 n rfl, Nat.zero_add]
  have HCM : Hid (∀ X Y, cmFrom P X Y 0 n = decide (key P Y n < key P X n)) := hcm
  obtain ⟨B, hB⟩ : ∃ B, B = bestTo (fun x => key P (R x) n) (fun k => allTo (fun i => fs (C i) (P i) (R k i)) n) := ⟨_, rfl⟩
  have HB0 : Hid (B 0 = none) := by rw [hB]; exact rfl
  have HBS : Hid (∀ k, B (k + 1) = if allTo (fun i => fs (C i) (P i) (R k i)) n then (match B k with | none => some k | some b => if key P (R b) n < key P (R k) n then some k else some b) else B k) := by rw [hB]; exact fun _ => rfl
  have HBL : Hid (∀ k b, B k = some b → b < k) := by rw [hB]; exact fun k b => bestTo_lt
  rw [← hB]
  clear hB hcm
  have hmk := run_make_row' (P := Try.prog) 28 3 (.int .i64 0) 8 Try.underlying28 Try.info3 rfl .i64 .i64 n (by omega) (by omega)
  go_enter Try.func16, Try.ntmps16
  go_wp2
  go_loop [9, 10] (fun t i => ∃ k : Nat, k ≤ n ∧ i = .int .i64 k ∧ t = .int .i64 (nFail P k : Nat)) (fun _ i => n - (intOf i).toNat)
  case atStart => exact ⟨0, Nat.zero_le _, rfl, rfl⟩
  case round =>
    obtain ⟨k, hk, rfl, rfl⟩ := hrel
    by_cases hlt : k < n
    · obtain ⟨b2, o2, rfl, hbl2, hc2⟩ := hP.one (by omega)
      have hck := hc2 k hlt
      have hle := nFail_le P k
      clear hc2 hP hG hR hH hmk
      by_cases h3 : P k = 3
      · rw [h3] at hck
        go_wp2
        go_round
        case rel => exact ⟨k + 1, by omega, by go_num, by simp only [nFail]; rw [if_pos h3]; go_num⟩
        case measure => simp [intOf]; omega
      · have h3' : (P k == 3) = false := by simp [h3]
        go_wp2
        go_round
        case rel => exact ⟨k + 1, by omega, by go_num, by simp only [nFail]; rw [if_neg h3]; go_num⟩
        case measure => simp [intOf]; omega
    · obtain rfl : n = k := by omega
      rw [HF.out]
      go_wp2
      have hO := outM_start w n
      generalize w.alloc (.cells (madeCells #[.int .i64 0] n) 3) = wo at hO ⊢
      have hbo := (hO fun _ => 0).below
      have hG2 := hG.below hbo (Nat.le_refl _)
      have hR2 : ∀ k, k < m → Rd wo (A k) n (fun j => .int .i64 (R k j)) := fun k hk => (hR k hk).below hbo (Nat.le_refl _)
      have hH2 := hH.below hbo (Nat.le_refl _)
      have hP2 := hP.below hbo (Nat.le_refl _)
      clear hmk hbo
      go_loopg [17, 18] m (fun g t i wr => ∃ (k q : Nat) (bb : Option Nat), k ≤ m ∧ g = m - k ∧ i = .int .i64 k ∧ t = .int .i64 (bv bb) ∧ wr = wo.drewN q ∧ Hid (B k = bb))
      case atStart => exact ⟨0, 0, none, Nat.zero_le _, rfl, rfl, rfl, rfl, HB0.out⟩
      case round =>
        obtain ⟨x, q, bb, hx, rfl, rfl, rfl, rfl, hbb⟩ := hrel
        by_cases hxm : x < m
        · obtain ⟨b2, o2, rfl, hbl2, hc2⟩ := hG2.one (by omega)
          have e2 := hc2 x hxm
          have c24 := rowFits24 (A x) (Cp x) ha hcp pa pc n (R x) P C (wo.drewN q) hn (hR2 x hxm) hH2 hP2
          have hst := HBS.out x
          generalize allTo (fun i => fs (C i) (P i) (R x i)) n = ft at c24 hst
          cases ft
          · have HN : Hid (B (x + 1) = bb) := by show _ = _; rw [hst]; simpa using hbb.out
            clear hst hc2 hG2 hR2 hH2 hP2
            go_wp2_with fail
            refine c24.mono ?_
            rintro e w' ⟨rfl, q', rfl⟩
            go_wp2
            go_roundg (m - (x + 1))
            case measure => go_light; omega
            case rel => go_light; exact ⟨x + 1, _, bb, by omega, rfl, by go_num, rfl, rfl, HN.out⟩
          · cases bb with
            | none =>
              have HN : Hid (B (x + 1) = some x) := by show _ = _; rw [hst, hbb.out]; rfl
              clear hst hc2 hG2 hR2 hH2 hP2
              have hbv : bv none = -1 := rfl
              go_wp2_with fail
              refine c24.mono ?_
              rintro e w' ⟨rfl, q', rfl⟩
              go_wp2
              go_quiet (fail)
              go_wp2
              go_roundg (m - (x + 1))
              case measure => go_light; omega
              case rel => go_light; exact ⟨x + 1, _, some x, by omega, rfl, by go_num, rfl, rfl, HN.out⟩
            | some b =>
              have hbm : b < x := HBL.out x b hbb.out
              have hbm2 : b < m := by omega
              have hbm3 : (b : Int) < (m : Int) := by omega
              have e4 := hc2 b (by omega)
              have c25 := fun q => cancels25 (A x) (Cp x) (A b) (Cp b) pa pc n (R x) (R b) P (wo.drewN q) hn (hR2 x hxm) (hR2 b (by omega)) hP2
              rw [HCM.out (R x) (R b)] at c25
              by_cases hkey : key P (R b) n < key P (R x) n
              · have HN : Hid (B (x + 1) = some x) := by show _ = _; rw [hst, hbb.out]; simp [hkey]
                rw [decide_eq_true hkey] at c25
                clear hst hc2 hG2 hR2 hH2 hP2 hkey
                have hbv : bv (some b) = (b : Int) := rfl
                go_wp2_with fail
                refine c24.mono ?_
                rintro e w' ⟨rfl, q', rfl⟩
                go_wp2
                go_quiet ((go_at_call 25; exact (c25 _).mono fun e w'' ⟨he, hw⟩ => ⟨he, _, hw⟩))
                go_wp2
                go_roundg (m - (x + 1))
                case measure => go_light; omega
                case rel => go_light; exact ⟨x + 1, _, some x, by omega, rfl, by go_num, rfl, rfl, HN.out⟩
              · have HN : Hid (B (x + 1) = some b) := by show _ = _; rw [hst, hbb.out]; simp [hkey]
                rw [decide_eq_false hkey] at c25
                clear hst hc2 hG2 hR2 hH2 hP2 hkey
                have hbv : bv (some b) = (b : Int) := rfl
                go_wp2_with fail
                refine c24.mono ?_
                rintro e w' ⟨rfl, q', rfl⟩
                go_wp2
                go_quiet ((go_at_call 25; exact (c25 _).mono fun e w'' ⟨he, hw⟩ => ⟨he, _, hw⟩))
                go_wp2
                go_roundg (m - (x + 1))
                case measure => go_light; omega
                case rel => go_light; exact ⟨x + 1, _, some b, by omega, rfl, by go_num, rfl, rfl, HN.out⟩
        · obtain rfl : m = x := by omega
          cases bb with
          | some b =>
            have hbm : b < m := HBL.out m b hbb.out
            have HE : Hid (B m = some b) := hbb.out
            have hbv : bv (some b) = (b : Int) := rfl
            have hO2 := outM_drewN (hO fun i => R b i) q
            have hkz : ¬ ((m : Int) < (m : Int)) := by omega
            clear hG2 hR2 hH2 hP2 hO hP hH
            go_wp2
            go_loopg [19] n (fun g i wr => ∃ k : Nat, k ≤ n ∧ g = n - k ∧ i = .int .i64 k ∧ OutM w wr n (fun i => R b i) k)
            case atStart => exact ⟨0, Nat.zero_le _, rfl, rfl, hO2⟩
            case round =>
              clear hO2
              obtain ⟨k, hk, rfl, rfl, hO⟩ := hrel
              by_cases hlt : k < n
              · obtain ⟨b2, o2, rfl, hbl2, hc2⟩ := (hG.below hO.below (Nat.le_refl _)).one (by omega)
                have e2 := hc2 b hbm
                obtain ⟨b3, o3, hAb, hbl3, hc3⟩ := ((hR b hbm).below hO.below (Nat.le_refl _)).one hn0
                rw [hAb] at e2
                have e3 := hc3 k hlt
                have c3 : wr.cell? ⟨w.heap.size, k, none⟩ = some (.int .i64 0) := by rw [hO.row.cell hlt]; simp [uptoI]
                have c4 : wr.frozen? ⟨w.heap.size, k, none⟩ = false := hO.row.frozen k
                clear hG hR hc2 hc3 hAb
                go_wp2
                go_roundg (n - (k + 1))
                case measure => go_light; omega
                case rel => go_light; exact ⟨k + 1, by omega, rfl, by go_num, outM_step hO⟩
              · obtain rfl : n = k := by omega
                clear hG hR
                go_wp2
                go_ret2
                exact ⟨_, by rw [HE.out]; rfl, by rw [HE.out]; exact outM_done hO, hO.below⟩
          | none =>
            have HE : Hid (B m = none) := hbb.out
            have hbv : bv none = -1 := rfl
            have hO2 := outM_drewN (hO fun i => dflt (C i) (P i)) q
            have hkz : ¬ ((m : Int) < (m : Int)) := by omega
            clear hG2 hR2 hH2 hP2 hO hG hR
            go_wp2
            go_loopg [20] n (fun g i wr => ∃ k : Nat, k ≤ n ∧ g = n - k ∧ i = .int .i64 k ∧ OutM w wr n (fun i => dflt (C i) (P i)) k)
            case atStart => exact ⟨0, Nat.zero_le _, rfl, rfl, hO2⟩
            case round =>
              obtain ⟨k, hk, rfl, rfl, hO⟩ := hrel
              by_cases hlt : k < n
              · obtain ⟨b2, o2, rfl, hbl2, hc2⟩ := (hP.below hO.below (Nat.le_refl _)).one (by omega)
                obtain ⟨b3, o3, rfl, hbl3, hc3⟩ := (hH.below hO.below (Nat.le_refl _)).one (by omega)
                have e2 := hc2 k hlt
                have e3 := hc3 k hlt
                have c3 : wr.cell? ⟨w.heap.size, k, none⟩ = some (.int .i64 0) := by rw [hO.row.cell hlt]; simp [uptoI]
                have c4 : wr.frozen? ⟨w.heap.size, k, none⟩ = false := hO.row.frozen k
                have c26 := dflt26 (P k) (C k) wr.drew
                clear hc2 hc3 hP hH
                go_wp2
                go_region_with (go_at_call 26; refine c26.mono ?_; rintro e w' ⟨rfl, rfl⟩)
                all_goals go_wp2
                all_goals
                  (go_roundg (n - (k + 1))
                   case measure => go_light; omega
                   case rel => go_light; exact ⟨k + 1, by omega, rfl, by go_num, outM_step (outM_drew hO)⟩)
              · obtain rfl : n = k := by omega
                clear hP hH
                by_cases hm0 : m = 0
                · subst hm0
                  go_wp2
                  go_ret2
                  exact ⟨_, by rw [HE.out]; rfl, by rw [HE.out]; exact outM_done hO, hO.below⟩
                · have hmz : ((m : Int) == 0) = false := by rw [beq_eq_false_iff_ne]; omega
                  have HM : Hid ((m == 0) = false) := beq_eq_false_iff_ne.2 hm0
                  go_wp2
                  go_ret2
                  exact ⟨_, by rw [HE.out]; simp only [accB, HM.out]; rfl, by rw [HE.out]; exact outM_done hO, hO.below⟩


end Go.Proofs.Qxb6612369a
