import Derived.Test.Qxb6609202aRand
import Derived.Laws.BitsAllLaws
namespace Go.Proofs.Qxb6609202a
open Go.RowKit

theorem thr_walk (n : Nat) (h1 : 1 ≤ n) (h2 : n ≤ 65536) : (IntKind.u64.wrap (-(n : Int))).tmod (n : Int) = (thr n : Int) := by
  rw [IntKind.wrap_u64, show (-(n : Int)) % 18446744073709551616 = ((18446744073709551616 - n : Nat) : Int) by omega]
  unfold thr
  generalize 18446744073709551616 - n = q
  rw [Int.tmod_eq_emod_of_nonneg (by omega)]
  omega

def pw (n : Nat) : Bool := bits BinOp.and IntKind.u64 (n : Int) ((n : Int) - 1) == 0
def avI (n x : Nat) : Int := bits BinOp.and IntKind.u64 (x : Int) ((n : Int) - 1)
def avN (n x : Nat) : Nat := x &&& (n - 1)
theorem avI_eq {n x : Nat} (h1 : 1 ≤ n) (h2 : n ≤ 65536) (hx : x < 18446744073709551616) : avI n x = (avN n x : Int) := by
  unfold avI avN
  rw [show ((n : Int) - 1) = ((n - 1 : Nat) : Int) by omega, u64_and_nat x (n - 1) hx (by omega)]
theorem avN_lt {n x : Nat} (h1 : 1 ≤ n) : avN n x < n := by
  have : avN n x ≤ n - 1 := Nat.and_le_right
  omega

/-- from the state (h, l) the draw below n is v and leaves (h', l') -/
def DrawIs (n h l v h' l' : Nat) : Prop :=
  (pw n = true ∧ v = avN n (outN (nxh h l) (nxl l)) ∧ h' = nxh h l ∧ l' = nxl l) ∨ (pw n = false ∧ ∃ k, cont n k (nxh h l) (nxl l) = some (v, h', l'))

theorem draw_ends (n h l : Nat) (h1 : 1 ≤ n) (h2 : n ≤ 65536) : ∃ v h' l', DrawIs n h l v h' l' := by
  cases hp : pw n with
  | true => exact ⟨avN n (outN (nxh h l) (nxl l)), nxh h l, nxl l, .inl ⟨hp, rfl, rfl, rfl⟩⟩
  | false =>
    obtain ⟨k, r, hr⟩ := cont_ends n (nxh h l) (nxl l) (by omega) (by omega) (nxh_lt h l) (nxl_lt l)
    exact ⟨r.1, r.2.1, r.2.2, .inr ⟨hp, k, hr⟩⟩

theorem draw_bd {n h l v h' l' : Nat} (h1 : 1 ≤ n) (hd : DrawIs n h l v h' l') : v < n ∧ h' < 18446744073709551616 ∧ l' < 18446744073709551616 := by
  rcases hd with ⟨_, q1, q2, q3⟩ | ⟨_, k, hk⟩
  · rw [q1, q2, q3]; exact ⟨avN_lt h1, nxh_lt _ _, nxl_lt _⟩
  · exact cont_bd n k _ _ _ (by omega) (nxh_lt _ _) (nxl_lt _) hk

theorem cont_zero_no {n h l : Nat} (ho : okD n h l = false) (r : Nat × Nat × Nat) (hr : cont n 0 h l = some r) : False := by
  unfold cont at hr; rw [contG, ho] at hr; simp at hr
theorem cont_succ_no {n k h l : Nat} (ho : okD n h l = false) : cont n (k + 1) h l = cont n k (nxh h l) (nxl l) := by
  unfold cont; rw [contG, ho]; simp
theorem cont_yes {n k h l : Nat} (ho : okD n h l = true) : cont n k h l = some (valD n h l, h, l) := by
  unfold cont; cases k <;> rw [contG, ho] <;> simp

set_option maxRecDepth 100000 in
set_option maxHeartbeats 1000000 in
theorem u64n12_pow (rb b h l n v h' l' : Nat) (w : World) (h1 : 1 ≤ n) (h2 : n ≤ 65536) (hl : l < 18446744073709551616) (hr : RandAt w rb b) (hp : PcgAt w b h l) (hpw : pw n = true) (hd : DrawIs n h l v h' l') :
    Calls Try.prog 12 #[.pointer (some ⟨rb, 0, none⟩), .int .u64 n] w fun e w' => e = .returned (.int .u64 v) ∧ PcgAt w' b h' l' ∧ OnlyAt b w w' := by
  have hq : v = avN n (outN (nxh h l) (nxl l)) ∧ h' = nxh h l ∧ l' = nxl l := by
    rcases hd with ⟨_, q⟩ | ⟨q, _⟩
    · exact q
    · rw [hpw] at q; exact absurd q (by simp)
  obtain ⟨hv, q2, q3⟩ := hq
  rw [q2, q3]
  clear q2 q3
  have c14 := rand14 rb b h l w hl hr hp
  have hob := outN_lt (nxh h l) (nxl l)
  generalize outN (nxh h l) (nxl l) = o at hv c14 hob
  generalize nxh h l = H at *
  generalize nxl l = L at *
  have hav := avI_eq h1 h2 hob
  rw [← hv] at hav
  unfold avI at hav
  unfold pw at hpw
  have HV : Hid (bits BinOp.and IntKind.u64 (o : Int) ((n : Int) - 1) = (v : Int)) := hav
  clear hd hv hav
  go_enter Try.func12, Try.ntmps12
  go_wp2_with fail
  refine c14.mono ?_
  rintro e w' ⟨rfl, hp', ho'⟩
  clear c14 hp hr
  go_wp2
  rw [HV.out]
  go_ret
  exact ⟨rfl, hp', ho'⟩

set_option maxRecDepth 100000 in
set_option maxHeartbeats 2000000 in
theorem u64n12_not (rb b h l n v h' l' : Nat) (w : World) (hrb : rb ≠ b) (h1 : 1 ≤ n) (h2 : n ≤ 65536) (hl : l < 18446744073709551616) (hr : RandAt w rb b) (hp : PcgAt w b h l) (hpw : pw n = false) (hd : DrawIs n h l v h' l') :
    Calls Try.prog 12 #[.pointer (some ⟨rb, 0, none⟩), .int .u64 n] w fun e w' => e = .returned (.int .u64 v) ∧ PcgAt w' b h' l' ∧ OnlyAt b w w' := by
  obtain ⟨K, hK⟩ : ∃ k, cont n k (nxh h l) (nxl l) = some (v, h', l') := by
    rcases hd with ⟨q, _⟩ | ⟨_, q⟩
    · rw [hpw] at q; exact absurd q (by simp)
    · exact q
  have c14 := rand14 rb b h l w hl hr hp
  have hH := nxh_lt h l
  have hL := nxl_lt l
  generalize nxh h l = H at *
  generalize nxl l = L at *
  have hob := outN_lt H L
  have c15 := fun w => Try.bits_Mul64 (outN H L) n hob (by omega) w
  have hlo := loD_lt n H L
  have eV : outN H L * n / 18446744073709551616 = valD n H L := rfl
  have eL : outN H L * n % 18446744073709551616 = loD n H L := rfl
  rw [eV, eL] at c15
  have HK : Hid (cont n K H L = some (v, h', l')) := hK
  have ht := thr_lt (n := n) (by omega)
  have HTH : Hid ((IntKind.u64.wrap (-(n : Int))).tmod (n : Int) = (thr n : Int)) := thr_walk n h1 h2
  unfold pw at hpw
  clear hd hK eV eL hob
  have hvb := valD_lt (n := n) (by omega) H L
  have HOKy : Hid (n ≤ loD n H L → okD n H L = true) := fun q => by unfold okD; simp; omega
  generalize hval : valD n H L = va at c15 hvb
  generalize hloe : loD n H L = lo at c15 hlo HOKy
  have HVL : Hid (valD n H L = va ∧ loD n H L = lo) := ⟨hval, hloe⟩
  clear hval hloe
  generalize outN H L = o at c14 c15
  go_enter Try.func12, Try.ntmps12
  go_wp2_with fail
  refine c14.mono ?_
  rintro e w1 ⟨rfl, hp1, ho1⟩
  go_wp2_with fail
  refine (c15 w1).mono ?_
  rintro e w' ⟨rfl, rfl⟩
  clear c14 c15
  by_cases hn : n ≤ lo
  · have hy := HK.out
    rw [cont_yes (HOKy.out hn), (HVL.out).1] at hy
    simp only [Option.some.injEq, Prod.mk.injEq] at hy
    obtain ⟨rfl, rfl, rfl⟩ := hy
    clear HK HOKy HVL
    go_wp2
    go_ret
    exact ⟨rfl, hp1, ho1⟩
  · have hn' : lo < n := by omega
    go_wp2
    rw [HTH.out]
    have htb : thr n ≤ 65536 := by omega
    generalize hte : thr n = th at ht htb ⊢
    have HTE : Hid (thr n = th) := hte
    clear hte
    go_loopg [5, 6] K (fun g s5 s6 wr => ∃ (H L va lo : Nat), L < 18446744073709551616 ∧ lo < 18446744073709551616 ∧ s5 = .int .u64 va ∧ s6 = .int .u64 lo ∧ PcgAt wr b H L ∧ OnlyAt b w wr ∧ Hid (cont n g H L = some (v, h', l') ∧ valD n H L = va ∧ loD n H L = lo))
    case atStart => exact ⟨H, L, va, lo, hL, hlo, rfl, rfl, hp1, ho1, HK.out, HVL.out.1, HVL.out.2⟩
    case round =>
      clear HK HVL HOKy hp1 ho1 hlo hn hn' hvb hH hL
      obtain ⟨H, L, va, lo, hL, hlo, rfl, rfl, hp1, ho1, hc⟩ := hrel
      have hra : RandAt wr rb b := by unfold RandAt; rw [ho1.cell (p := ⟨rb, 0, none⟩) hrb]; exact hr
      by_cases hlt : lo < th
      · have hno : okD n H L = false := by unfold okD; rw [HTE.out, hc.out.2.2]; simp; omega
        cases gk with
        | zero => exact (cont_zero_no hno _ hc.out.1).elim
        | succ k =>
          have hk := hc.out.1
          rw [cont_succ_no hno] at hk
          have c14 := rand14 rb b H L wr hL hra hp1
          have hL2 := nxl_lt L
          generalize nxh H L = H2 at hk c14
          generalize nxl L = L2 at hk c14 hL2
          have hob := outN_lt H2 L2
          have c15 := fun w => Try.bits_Mul64 (outN H2 L2) n hob (by omega) w
          have hlo2 := loD_lt n H2 L2
          have eV : outN H2 L2 * n / 18446744073709551616 = valD n H2 L2 := rfl
          have eL : outN H2 L2 * n % 18446744073709551616 = loD n H2 L2 := rfl
          rw [eV, eL] at c15
          have HN : Hid (cont n k H2 L2 = some (v, h', l')) := hk
          clear hk eV eL hob hno hc hra
          generalize hval : valD n H2 L2 = va2 at c15
          generalize hloe : loD n H2 L2 = lo2 at c15 hlo2
          have HVL : Hid (valD n H2 L2 = va2 ∧ loD n H2 L2 = lo2) := ⟨hval, hloe⟩
          clear hval hloe
          generalize outN H2 L2 = o2 at c14 c15
          go_wp2_with fail
          refine c14.mono ?_
          rintro e w1 ⟨rfl, hp2, ho2⟩
          go_wp2_with fail
          refine (c15 w1).mono ?_
          rintro e w' ⟨rfl, rfl⟩
          clear c14 c15
          go_wp2
          go_roundg k
          case measure => go_light; omega
          case rel => go_light; exact ⟨H2, L2, va2, lo2, hL2, hlo2, rfl, rfl, hp2, ho1.trans ho2, HN.out, HVL.out.1, HVL.out.2⟩
      · have hyes : okD n H L = true := by unfold okD; rw [HTE.out, hc.out.2.2]; simp; omega
        have hk := hc.out.1
        rw [cont_yes hyes, hc.out.2.1] at hk
        simp only [Option.some.injEq, Prod.mk.injEq] at hk
        obtain ⟨e1, e2, e3⟩ := hk
        subst e1 e2 e3
        clear hyes hc hra
        go_wp2
        go_ret
        exact ⟨rfl, hp1, ho1⟩

end Go.Proofs.Qxb6609202a
