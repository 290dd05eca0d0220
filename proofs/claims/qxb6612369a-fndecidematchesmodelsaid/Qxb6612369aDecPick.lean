import Derived.Test.Qxb6612369aDecFits
import Derived.Test.Qxb6612369aDecPickPlain
import Derived.Test.Qxb6612369aOwn
namespace Go.Proofs.Qxb6612369a
open Go.RowKit

theorem Try.info54 : (Try.prog.info? 54).map (fun i => (i.zero, i.size, i.bytes)) = some (some (.slice none 0 0), 1, 24) := by kernel_rfl

def rowV (TA : Nat → Option Addr) (TC : Nat → Nat) (n k : Nat) : Value := .slice (TA k) n (TC k)

/-- What pick hands back. -/
def pickV (TA : Nat → Option Addr) (TC : Nat → Nat) (n : Nat) (L : List Nat) : Value := match L with
  | [] => .slice none 0 0
  | k :: _ => rowV TA TC n k

theorem rd_list {w : World} {base : Nat} {e : TypeId} {v : Value} {TA : Nat → Option Addr} {TC : Nat → Nat} {n : Nat} {L : List Nat} (h : w.ownsRow base e 1 v L.length (L.map (rowV TA TC n))) :
    ∃ a cap, v = .slice a L.length cap ∧ Rd w a L.length (fun j => rowV TA TC n (L.getD j 0)) := by
  obtain ⟨a, cap, hv, hr⟩ := ownsRow_rd h
  refine ⟨a, cap, hv, hr.congr fun i hi => ?_⟩
  simp [List.getD_eq_getElem?_getD, hi]

set_option maxRecDepth 100000 in
set_option maxHeartbeats 2000000 in
theorem pick37 {cb n m sb : Nat} {Q : Nat → Option Addr} {ta : Option Addr} {tc : Nat} {TA : Nat → Option Addr} {TC : Nat → Nat} {R : Nat → Nat → Int} (w : World) (hC : CompIs w cb n m sb Q ta tc TA TC R)
    (pa : Option Addr) (pc : Nat) (P : Nat → Int) (hn : n ≤ 131072) (hm : m ≤ 65536) (hP : Rd w pa n (fun j => .int .i64 (P j))) :
    Calls Try.prog 37 #[.pointer (some ⟨cb, 0, none⟩), .slice pa n pc] w fun e w' =>
      e = .returned (pickV TA TC n (pickTo P R (fitTo (fun k => allTo (fun i => fs (Q i).isSome (P i) (R k i)) n) m) n)) ∧ Below w.heap.size w w' := by
  obtain ⟨fit, hfit⟩ : ∃ fit : Nat → Bool, fit = fun k => allTo (fun i => fs (Q i).isSome (P i) (R k i)) n := ⟨_, rfl⟩
  have HF : Hid (∀ k, allTo (fun i => fs (Q i).isSome (P i) (R k i)) n = fit k) := fun k => by rw [hfit]
  rw [← hfit]
  clear hfit
  have hacc := hC.acc
  go_enter Try.func37, Try.ntmps37
  go_wp2
  go_loopg [5, 18] m (fun g v i wr => ∃ k : Nat, k ≤ m ∧ g = m - k ∧ i = .int .i64 k ∧ Below w.heap.size w wr ∧ wr.ownsRow w.heap.size 54 1 v (fitTo fit k).length ((fitTo fit k).map (rowV TA TC n)))
  case atStart => exact ⟨0, Nat.zero_le _, rfl, rfl, Below.refl _ _, World.ownsRow_nil _ _ _ _⟩
  case round =>
    obtain ⟨k, hk, rfl, rfl, hb, hown⟩ := hrel
    by_cases hlt : k < m
    · have hC' := hC.below hb (Nat.le_refl _)
      obtain ⟨b1, o1, rfl, hbl1, hc1⟩ := hC'.tab.one (by omega)
      have e1 := hc1 k hlt
      have c40 := fits40 wr hC' (TA k) (TC k) pa pc (R k) P hn (hC'.row k hlt) (hP.below hb (Nat.le_refl _))
      rw [HF.out k] at c40
      have hfl := fitTo_length fit k
      have hfs := fitTo_succ fit k
      clear hC hP hC' hc1 hacc
      cases hfk : fit k
      · rw [hfk] at c40 hfs
        simp only [Bool.false_eq_true, if_false, List.append_nil] at hfs
        have HS : Hid (fitTo fit (k + 1) = fitTo fit k) := hfs
        clear hfs hfk
        go_wp2_with (go_at_call 40; refine c40.mono ?_; rintro e w' ⟨rfl, hb'⟩)
        go_roundg (m - (k + 1))
        case measure => go_light; omega
        case rel => go_light; exact ⟨k + 1, by omega, rfl, by go_num, hb.trans (hb'.mono hb.size), by rw [HS.out]; exact ownsRow_below hown hb' (Nat.le_refl _)⟩
      · rw [hfk] at c40 hfs
        simp only [if_true] at hfs
        have HS : Hid (fitTo fit (k + 1) = fitTo fit k ++ [k]) := hfs
        clear hfs hfk
        go_wp2_with fail
        refine c40.mono ?_
        rintro e w' ⟨rfl, hb'⟩
        have hown' := ownsRow_below hown hb' (Nat.le_refl _)
        have hsz' : w.heap.size ≤ w'.heap.size := Nat.le_trans hb.size hb'.size
        clear c40 hown
        go_wp2_with (at_builtin; refine wpList_append_one rfl (.tmp 26) (.tmp 28) 53 rfl w.heap.size 54 (.slice none 0 0) 24 Try.underlying53 Try.info54 rfl _ _ _ rfl (hown'.alloc _) w'.heap.size (.slice (TA k) n (TC k)) rfl ?c1 rfl ?c2 ?c3 ?c4 w.heap.size (Nat.le_refl _) ?_)
        case c1 => simp
        case c2 => unfold maxLen; omega
        case c3 => omega
        case c4 => simp; omega
        intro v' w1 hown1 hb1
        go_wp2
        go_roundg (m - (k + 1))
        case measure => go_light; omega
        case rel =>
          go_light
          refine ⟨k + 1, by omega, rfl, by go_num, ((hb.trans (hb'.mono hb.size)).alloc hsz' _).trans hb1, ?_⟩
          rw [HS.out, List.length_append, List.map_append]
          exact hown1
    · obtain rfl : m = k := by omega
      obtain ⟨a1, cp1, rfl, hrd⟩ := rd_list hown
      have hsub : ∀ i x, x ∈ pickTo P R (fitTo fit m) i → x < m := fun i x hx => (mem_fitTo.1 (pickTo_sub P R _ i x hx)).1
      have hlenL : ∀ i, (pickTo P R (fitTo fit m) i).length ≤ m := fun i => Nat.le_trans (pickTo_length P R _ i) (fitTo_length fit m)
      have HSUB : Hid (∀ i x, x ∈ pickTo P R (fitTo fit m) i → x < m) := hsub
      have HLEN : Hid (∀ i, (pickTo P R (fitTo fit m) i).length ≤ m) := hlenL
      clear hsub hlenL hown hacc
      go_wp2
      go_loopg [5, 33] n (fun g v i wx => ∃ (k : Nat) (a : Option Addr) (cp : Nat), k ≤ n ∧ g = n - k ∧ i = .int .i64 k ∧ v = .slice a (pickTo P R (fitTo fit m) k).length cp ∧ Below w.heap.size w wx ∧
        Rd wx a (pickTo P R (fitTo fit m) k).length (fun j => rowV TA TC n ((pickTo P R (fitTo fit m) k).getD j 0)))
      case atStart => exact ⟨0, a1, cp1, Nat.zero_le _, rfl, rfl, rfl, hb, hrd⟩
      case round =>
        clear hrd hb
        obtain ⟨k, a, cp, hk, rfl, rfl, rfl, hb, hrd⟩ := hrel
        have hst : pickTo P R (fitTo fit m) (k + 1) = if P k = 1 ∧ keepI R k (pickTo P R (fitTo fit m) k) ≠ [] then keepI R k (pickTo P R (fitTo fit m) k) else pickTo P R (fitTo fit m) k := rfl
        by_cases hlt : k < n
        · have hLl := HLEN.out k
          have hsub : ∀ x, x ∈ pickTo P R (fitTo fit m) k → x < m := HSUB.out k
          obtain ⟨L', hL'⟩ : ∃ L', L' = pickTo P R (fitTo fit m) (k + 1) := ⟨_, rfl⟩
          obtain ⟨L, hL⟩ : ∃ L, L = pickTo P R (fitTo fit m) k := ⟨_, rfl⟩
          rw [← hL] at hst hsub hLl hrd
          rw [← hL]
          rw [← hL'] at hst
          have HL : Hid (L' = pickTo P R (fitTo fit m) (k + 1)) := hL'
          have HSB : Hid (∀ x, x ∈ L → x < m) := hsub
          have HST : Hid (L' = if P k = 1 ∧ keepI R k L ≠ [] then keepI R k L else L) := hst
          clear hL' hL hsub hst
          have hC' := hC.below hb (Nat.le_refl _)
          obtain ⟨b2, o2, rfl, hbl2, hc2⟩ := (hP.below hb (Nat.le_refl _)).one (by omega)
          have e2 := hc2 k hlt
          clear hc2 hC
          by_cases hp1 : P k = 1
          · rw [hp1] at e2
            obtain ⟨wo, rfl⟩ : ∃ wo : World, wo = wr := ⟨_, rfl⟩
            go_wp2
            go_loopg [10, 42] L.length (fun g v i wi => ∃ j : Nat, j ≤ L.length ∧ g = L.length - j ∧ i = .int .i64 j ∧ Below wo.heap.size wo wi ∧
              wi.ownsRow wo.heap.size 54 1 v (keepI R k (L.take j)).length ((keepI R k (L.take j)).map (rowV TA TC n)))
            case atStart => exact ⟨0, Nat.zero_le _, rfl, rfl, Below.refl _ _, World.ownsRow_nil _ _ _ _⟩
            case round =>
              obtain ⟨j, hj, rfl, rfl, hbi, hown⟩ := hrel
              by_cases hjl : j < L.length
              · obtain ⟨b3, o3, rfl, hbl3, hc3⟩ := (hrd.below hbi (Nat.le_refl _)).one (by omega)
                have e3 := hc3 j hjl
                have hks := keepI_take R k L j hjl
                have hkl := keepI_length R k L j
                obtain ⟨x, hx⟩ : ∃ x, x = L[j] := ⟨_, rfl⟩
                have hxm : x < m := HSB.out x (by rw [hx]; exact List.getElem_mem hjl)
                rw [← hx] at hks
                rw [show L.getD j 0 = x from by rw [hx]; simp [List.getD_eq_getElem?_getD, hjl]] at e3
                have hC'' := hC'.below hbi (Nat.le_refl _)
                obtain ⟨b4, o4, ha4, hbl4, hc4⟩ := (hC''.row x hxm).one (by omega)
                have e4 := hc4 k hlt
                have e3' : wr.cell? ⟨b3, o3 + j, none⟩ = some (.slice (some ⟨b4, o4, none⟩) n (TC x)) := by rw [e3, rowV, ha4]
                have HV : Hid (rowV TA TC n x = .slice (some ⟨b4, o4, none⟩) n (TC x)) := by show _ = _; rw [rowV, ha4]
                clear hc3 hc4 hC'' ha4 hx e3
                by_cases h5 : R x k = 5
                · rw [h5] at e4
                  have HK : Hid (keepI R k (L.take (j + 1)) = keepI R k (L.take j) ++ [x]) := by show _ = _; rw [hks, h5]; rfl
                  clear hks
                  have hszi : wo.heap.size ≤ wr.heap.size := hbi.size
                  go_wp2_with (at_builtin; refine wpList_append_one rfl (.tmp 51) (.tmp 53) 53 rfl wo.heap.size 54 (.slice none 0 0) 24 Try.underlying53 Try.info54 rfl _ _ _ rfl (hown.alloc _) wr.heap.size (.slice (some ⟨b4, o4, none⟩) n (TC x)) rfl ?d1 rfl ?d2 ?d3 ?d4 wo.heap.size (Nat.le_refl _) ?_)
                  case d1 => simp
                  case d2 => unfold maxLen; omega
                  case d3 => omega
                  case d4 => simp; omega
                  intro v' w1 hown1 hb1
                  go_wp2
                  go_roundg (L.length - (j + 1))
                  case measure => go_light; omega
                  case rel =>
                    go_light
                    refine ⟨j + 1, by omega, rfl, by go_num, (hbi.alloc hszi _).trans hb1, ?_⟩
                    rw [HK.out, List.length_append, List.map_append, List.map_cons, HV.out]
                    exact hown1
                · have h5' : (R x k == 5) = false := by simp [h5]
                  have HK : Hid (keepI R k (L.take (j + 1)) = keepI R k (L.take j)) := by show _ = _; rw [hks, h5']; simp
                  clear hks
                  go_wp2
                  go_roundg (L.length - (j + 1))
                  case measure => go_light; omega
                  case rel => go_light; exact ⟨j + 1, by omega, rfl, by go_num, hbi, by rw [HK.out]; exact hown⟩
              · obtain rfl : j = L.length := by omega
                rw [List.take_length] at hown
                obtain ⟨a5, cp5, rfl, hrd5⟩ := rd_list hown
                have hkl := keepI_length R k L L.length
                rw [List.take_length] at hkl
                clear hown hC'
                obtain ⟨K, hK⟩ : ∃ K, K = keepI R k L := ⟨_, rfl⟩
                rw [← hK] at hrd5 hkl
                rw [← hK]
                have HKK : Hid (L' = if P k = 1 ∧ K ≠ [] then K else L) := by show _ = _; rw [hK]; exact HST.out
                clear hK HST
                by_cases hK0 : K = []
                · have HE : Hid (L' = L) := by have := HKK.out; rw [if_neg (fun h => h.2 hK0)] at this; exact this
                  clear HKK
                  subst hK0
                  go_wp2
                  go_roundg (n - (k + 1))
                  case measure => go_light; omega
                  case rel =>
                    go_light
                    have e := HL.out
                    rw [HE.out] at e
                    exact ⟨k + 1, a, cp, by omega, rfl, by go_num, by rw [← e], hb.trans (hbi.mono hb.size), by rw [← e]; exact hrd.below hbi (Nat.le_refl _)⟩
                · have HE : Hid (L' = K) := by have := HKK.out; rw [if_pos ⟨hp1, hK0⟩] at this; exact this
                  have hKp : 0 < K.length := List.length_pos_iff.2 hK0
                  clear HKK
                  go_wp2
                  go_roundg (n - (k + 1))
                  case measure => go_light; omega
                  case rel =>
                    go_light
                    have e := HL.out
                    rw [HE.out] at e
                    exact ⟨k + 1, a5, cp5, by omega, rfl, by go_num, by rw [← e], hb.trans (hbi.mono hb.size), by rw [← e]; exact hrd5⟩
          · have hp1' : (P k != 1) = true := by simp [hp1]
            have HST' : Hid (L' = L) := by have := HST.out; rw [if_neg (fun h => hp1 h.1)] at this; exact this
            clear hC' HST
            go_wp2
            go_roundg (n - (k + 1))
            case measure => go_light; omega
            case rel =>
              go_light
              have e := HL.out
              rw [HST'.out] at e
              exact ⟨k + 1, a, cp, by omega, rfl, by go_num, by rw [← e], hb, by rw [← e]; exact hrd⟩
        · obtain rfl : n = k := by omega
          clear hst hC hP HSUB HLEN
          generalize hL : pickTo P R (fitTo fit m) n = L at hrd ⊢
          cases L with
          | nil =>
            have HL : Hid (pickTo P R (fitTo fit m) n = []) := hL
            clear hL
            go_wp2
            go_ret
            exact ⟨by rw [HL.out]; rfl, hb⟩
          | cons x r =>
            obtain ⟨b3, o3, rfl, hbl3, hc3⟩ := hrd.one (by simp)
            have e3 := hc3 0 (by simp)
            simp only [List.getD_cons_zero, rowV, Nat.add_zero] at e3
            have HL : Hid (pickTo P R (fitTo fit m) n = x :: r) := hL
            clear hrd hc3 hL
            have hpos : ((r.length : Int) + 1 == 0) = false := by rw [beq_eq_false_iff_ne]; omega
            go_wp2
            go_ret
            exact ⟨by rw [HL.out]; rfl, hb⟩

end Go.Proofs.Qxb6612369a
