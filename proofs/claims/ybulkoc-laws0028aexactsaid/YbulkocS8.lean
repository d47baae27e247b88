import Derived.Test.YbulkocS7
namespace Go.Proofs.Ybulkoc
set_option linter.unusedVariables false
open Go.RowKit


theorem Halves.right {M N : Nat → E} {a s mid e b : Nat} (h : Halves M a s mid e b) (he : mid ≤ e) (k : Shuf a mid M N) : Sorted N mid e ∧ Sorted N e b ∧ Mks N mid e b := by
  refine ⟨fun p q k1 k2 k3 => ?_, fun p q k1 k2 k3 => ?_, fun p q k1 k2 k3 k4 => ?_⟩
  · rw [k.out (Or.inr k1), k.out (Or.inr (by omega))]; exact h.s3 p q k1 k2 k3
  · rw [k.out (Or.inr (by omega)), k.out (Or.inr (by omega))]; exact h.s4 p q k1 k2 k3
  · rw [k.out (Or.inr k1), k.out (Or.inr (by omega))]; exact h.m2 p q k1 k2 k3 k4

set_option maxRecDepth 100000 in
set_option maxHeartbeats 4000000 in
theorem symGen (g n cap a m b : Nat) (L : Nat → E) (w : World) (hn : n ≤ 4096) (hcap : n ≤ cap) (hma : a + 1 < m) (hbm : m + 1 < b) (hb : b ≤ n) (hS : St w g n L) (hs1 : Sorted L a m) (hs2 : Sorted L m b) (hmk : Mks L a m b)
    (ih : ∀ (a' m' b' : Nat) (L' : Nat → E) (w' : World), b' - a' < b - a → a' < m' → m' < b' → b' ≤ n → St w' g n L' → Sorted L' a' m' → Sorted L' m' b' → Mks L' a' m' b' → SymOk g n cap a' m' b' L' w') :
    SymOk g n cap a m b L w := by
  unfold SymOk
  have HS0 := hide hS
  have HS1 := hide hs1
  have HS2 := hide hs2
  have HMk := hide hmk
  have IH := hide ih
  clear hS hs1 hs2 hmk ih
  go_enter Yba.func15, Yba.ntmps15
  have hone : (((m : Int) - (a : Int)) == 1) = false := by simp; omega
  have hone2 : (((b : Int) - (m : Int)) == 1) = false := by simp; omega
  obtain ⟨mid, hmid⟩ : ∃ mid : Nat, ((a : Int) + (b : Int)) / 2 = (mid : Int) := ⟨(a + b) / 2, by omega⟩
  have hm1 : 2 * mid ≤ a + b := by omega
  have hm2 : a + b ≤ 2 * mid + 1 := by omega
  have hor : (decide ((mid : Int) < (m : Int)) = true ∧ mid < m) ∨ (decide ((mid : Int) < (m : Int)) = false ∧ m ≤ mid) := by
    by_cases h : mid < m
    · exact Or.inl ⟨by simp; omega, h⟩
    · exact Or.inr ⟨by simp; omega, by omega⟩
  rcases hor with ⟨hd, hgt⟩ | ⟨hd, hgt⟩
  all_goals
    go_wp2_with fail
    try rw [show decide ((mid : Int) < (m : Int)) = false by simp; omega]
    try rw [show decide (mid < m) = false by simp; omega]
    clear hone hone2 hd hmid
    go_loopw [20, 21] (fun sv rv wr => ∃ s r : Nat, sv = .int .i64 s ∧ rv = .int .i64 r ∧ a ≤ s ∧ s ≤ r ∧ r ≤ mid ∧ r ≤ m ∧ mid + m ≤ b + s ∧ (s = a ∨ mid + m = b + s ∨ (L (s - 1)).1 ≤ (L (mid + m - s)).1) ∧ (r = mid ∨ r = m ∨ (L (mid + m - 1 - r)).1 < (L r).1) ∧ St wr g n L ∧ Oth g w wr) (fun sv rv _ => (intOf rv).toNat - (intOf sv).toNat)
    case atStart =>
      first
      | exact ⟨a, m, rfl, rfl, Nat.le_refl _, by omega, by omega, by omega, by omega, Or.inl rfl, Or.inr (Or.inl rfl), HS0.out, Oth.refl _ _⟩
      | exact ⟨mid + m - b, mid, by go_num, rfl, by omega, by omega, by omega, by omega, by omega, Or.inr (Or.inl (by omega)), Or.inl rfl, HS0.out, Oth.refl _ _⟩
    case round =>
      obtain ⟨s, r, rfl, rfl, has, hsr, hrd, hrm, hnb, hl, hr, hSt, hOt⟩ := hrel
      have HSt := hide hSt
      have HOt := hide hOt
      have HL := hide hl
      have HR := hide hr
      clear hl hr
      by_cases hlt : s < r
      · obtain ⟨c, hc⟩ : ∃ c : Nat, ((s : Int) + (r : Int)) / 2 = (c : Int) := ⟨(s + r) / 2, by omega⟩
        have hsc : s ≤ c := by omega
        have hcr : c < r := by omega
        obtain ⟨d, hdd⟩ : ∃ d : Nat, (mid : Int) + (m : Int) - 1 - (c : Int) = (d : Int) := ⟨mid + m - 1 - c, by omega⟩
        have hd1 : d = mid + m - 1 - c := by omega
        have HD1 := hide hd1
        have hdn : d < n := by omega
        clear hd1
        have c0 := hSt.at0 d (by omega)
        have c1 := hSt.at1 d (by omega)
        have c2 := hSt.at0 c (by omega)
        have c3 := hSt.at1 c (by omega)
        have i1 : (d : Int) < (n : Int) := by omega
        have i2 : (c : Int) < (n : Int) := by omega
        have i4 : c < n := by omega
        have w1 : IntKind.i64.wrap (d : Int) = d := wrapN _ (by omega) (by omega)
        have w2 : IntKind.i64.wrap (c : Int) = c := wrapN _ (by omega) (by omega)
        have hgz := hSt.lt
        clear hSt hOt
        go_wp2_with fail
        go_region_held3 (fun w' => w'.cell? ⟨g, d * 2, none⟩ = some (.int .i64 (L d).1) ∧ w'.cell? ⟨g, d * 2 + 1, none⟩ = some (.pointer (L d).2.1) ∧ w'.cell? ⟨g, c * 2, none⟩ = some (.int .i64 (L c).1) ∧ w'.cell? ⟨g, c * 2 + 1, none⟩ = some (.pointer (L c).2.1))
          (first | go_keep | (refine ⟨?_, ?_, ?_, ?_⟩ <;> (rw [hb2.cell (by simpa using hgz)]; assumption)))
          (first | (go_at_call 9; refine (cmpStop_any _ _ _ _ _).mono ?_; rintro e w2 ⟨rfl, hb2⟩))
        have HB2 : Hid (Below wr.heap.size wr w2) := ((Below.refl _ wr).drew).trans hb2
        have HS2' : Hid (St w2 g n L) := HSt.out.below HB2.out hgz
        have HO2 : Hid (Oth g w w2) := HOt.out.trans (Oth.ofBelow HB2.out)
        clear hb2 c0 c1 c2 c3
        by_cases hk : (L d).1 < (L c).1
        · rw [show cmpI (L d).1 (L c).1 = -1 by simp [cmpI, hk]]
          go_wp2
          go_roundw
          case rel => exact ⟨s, c, rfl, rfl, has, hsc, by omega, by omega, hnb, HL.out, Or.inr (Or.inr (by rw [← HD1.out]; exact hk)), HS2'.out, HO2.out⟩
          case measure => simp [intOf]; omega
        · obtain ⟨cv, hcv, hc0⟩ : ∃ cv, cmpI (L d).1 (L c).1 = cv ∧ 0 ≤ cv := ⟨_, rfl, by simp only [cmpI, hk, if_false]; split <;> decide⟩
          rw [hcv]
          clear hcv
          go_wp2
          go_roundw
          case rel =>
            have hd1 := HD1.out
            exact ⟨c + 1, r, by go_num, rfl, by omega, by omega, hrd, hrm, by omega, Or.inr (Or.inr (by rw [Nat.add_sub_cancel, show mid + m - (c + 1) = d by omega]; omega)), HR.out, HS2'.out, HO2.out⟩
          case measure => simp [intOf]; omega
          exfalso
          rename_i hx
          simp at hx
          omega
      · obtain rfl : s = r := by omega
        clear hSt hOt
        obtain ⟨e, he⟩ : ∃ e : Nat, (mid : Int) + (m : Int) - (s : Int) = (e : Int) := ⟨mid + m - s, by omega⟩
        have he1 : e + s = mid + m := by omega
        have heb : e ≤ b := by omega
        have hme : m ≤ e := by omega
        have HE1 := hide he1
        have HH : Hid (Halves (rot L s (m - s) (e - m)) a s mid e b) := by
          refine halves (by omega) (by omega) HS1.out HS2.out HMk.out has hrm hrd he1 heb ?_ ?_
          · rcases HL.out with h | h | h
            · exact Or.inl h
            · exact Or.inr (Or.inl (by omega))
            · refine Or.inr (Or.inr ?_)
              rw [show mid + m - s = e by omega] at h
              omega
          · rcases HR.out with h | h | h
            · exact Or.inl h
            · exact Or.inr (Or.inl h)
            · refine Or.inr (Or.inr ?_)
              rw [show mid + m - 1 - s = e - 1 by omega] at h
              exact h
        have HShR : Hid (Shuf a b L (rot L s (m - s) (e - m))) := Shuf.rot L has (by omega)
        rcases Nat.lt_or_ge s m with q1 | q1
        · rcases Nat.lt_or_ge s mid with q2 | q2
          · rcases Nat.lt_or_ge a s with q3 | q3
            · rcases Nat.lt_or_ge e b with q4 | q4
              · first
                | (exfalso; omega)
                | have d1 : decide ((s : Int) < (m : Int)) = true := by simp; omega
                  have d2 : decide ((m : Int) < (e : Int)) = true := by simp; omega
                  have d3 : decide ((a : Int) < (s : Int)) = true := by simp; omega
                  have d4 : decide ((s : Int) < (mid : Int)) = true := by simp; omega
                  have d5 : decide ((mid : Int) < (e : Int)) = true := by simp; omega
                  have d6 : decide ((e : Int) < (b : Int)) = true := by simp; omega
                  clear he1
                  go_wp2_with fail
                  refine (rotate_any g n cap s m e L _ hn hcap (by omega) (by omega) (by omega) HSt.out _).mono ?_
                  rintro x wA ⟨rfl, hSA, hOA⟩
                  have HSM := hide hSA
                  have HOM := hide (HOt.out.trans hOA)
                  clear hSA hOA
                  have HM := HH
                  have HShM := HShR
                  generalize rot L s (m - s) (e - m) = M at *
                  go_wp2_with fail
                  have hcall := IH.out a s mid M _ (by omega) (by omega) (by omega) (by omega) HSM.out HM.out.s1 HM.out.s2 HM.out.m1
                  unfold SymOk at hcall
                  refine hcall.mono ?_
                  clear hcall
                  rintro x wB ⟨rfl, N, hSN, hShN, hSoN, hON⟩
                  have HSN := hide hSN
                  have HShN := hide hShN
                  have HSoN := hide hSoN
                  have HON := hide (HOM.out.trans hON)
                  clear hSN hShN hSoN hON
                  have he1 := HE1.out
                  have HRt := hide (HM.out.right (by omega) HShN.out)
                  clear he1
                  go_wp2_with fail
                  have hcall := IH.out mid e b N _ (by omega) (by omega) (by omega) (by omega) HSN.out HRt.out.1 HRt.out.2.1 HRt.out.2.2
                  unfold SymOk at hcall
                  refine hcall.mono ?_
                  clear hcall
                  rintro x wC ⟨rfl, R, hSR, hShR, hSoR, hOR⟩
                  have HSR := hide hSR
                  have HShR2 := hide hShR
                  have HSoR := hide hSoR
                  have HOR := hide (HON.out.trans hOR)
                  clear hSR hShR hSoR hOR
                  go_wp2
                  go_end0
                  exact ⟨rfl, R, HSR.out, (HShM.out.trans (HShN.out.mono (Nat.le_refl _) (by omega))).trans (HShR2.out.mono (by omega) (Nat.le_refl _)), HM.out.join (by omega) (by omega) HShN.out HSoN.out HShR2.out HSoR.out, HOR.out⟩
              · first
                | (exfalso; omega)
                | have d1 : decide ((s : Int) < (m : Int)) = true := by simp; omega
                  have d2 : decide ((m : Int) < (e : Int)) = true := by simp; omega
                  have d3 : decide ((a : Int) < (s : Int)) = true := by simp; omega
                  have d4 : decide ((s : Int) < (mid : Int)) = true := by simp; omega
                  have d5 : decide ((mid : Int) < (e : Int)) = true := by simp; omega
                  have d6 : decide ((e : Int) < (b : Int)) = false := by simp; omega
                  clear he1
                  go_wp2_with fail
                  refine (rotate_any g n cap s m e L _ hn hcap (by omega) (by omega) (by omega) HSt.out _).mono ?_
                  rintro x wA ⟨rfl, hSA, hOA⟩
                  have HSM := hide hSA
                  have HOM := hide (HOt.out.trans hOA)
                  clear hSA hOA
                  have HM := HH
                  have HShM := HShR
                  generalize rot L s (m - s) (e - m) = M at *
                  go_wp2_with fail
                  have hcall := IH.out a s mid M _ (by omega) (by omega) (by omega) (by omega) HSM.out HM.out.s1 HM.out.s2 HM.out.m1
                  unfold SymOk at hcall
                  refine hcall.mono ?_
                  clear hcall
                  rintro x wB ⟨rfl, N, hSN, hShN, hSoN, hON⟩
                  have HSN := hide hSN
                  have HShN := hide hShN
                  have HSoN := hide hSoN
                  have HON := hide (HOM.out.trans hON)
                  clear hSN hShN hSoN hON
                  have he1 := HE1.out
                  have HRt := hide (HM.out.right (by omega) HShN.out)
                  clear he1
                  have HSR := HSN
                  have HShR2 : Hid (Shuf mid b N N) := Shuf.refl _ _ _
                  have HSoR : Hid (Sorted N mid b) := by have h := HRt.out.1; rw [show e = b by omega] at h; exact h
                  have HOR := HON
                  go_wp2
                  go_end0
                  exact ⟨rfl, N, HSR.out, (HShM.out.trans (HShN.out.mono (Nat.le_refl _) (by omega))).trans (HShR2.out.mono (by omega) (Nat.le_refl _)), HM.out.join (by omega) (by omega) HShN.out HSoN.out HShR2.out HSoR.out, HOR.out⟩
            · rcases Nat.lt_or_ge e b with q4 | q4
              · first
                | (exfalso; omega)
                | have d1 : decide ((s : Int) < (m : Int)) = true := by simp; omega
                  have d2 : decide ((m : Int) < (e : Int)) = true := by simp; omega
                  have d3 : decide ((a : Int) < (s : Int)) = false := by simp; omega
                  have d4 : decide ((s : Int) < (mid : Int)) = true := by simp; omega
                  have d5 : decide ((mid : Int) < (e : Int)) = true := by simp; omega
                  have d6 : decide ((e : Int) < (b : Int)) = true := by simp; omega
                  clear he1
                  go_wp2_with fail
                  refine (rotate_any g n cap s m e L _ hn hcap (by omega) (by omega) (by omega) HSt.out _).mono ?_
                  rintro x wA ⟨rfl, hSA, hOA⟩
                  have HSM := hide hSA
                  have HOM := hide (HOt.out.trans hOA)
                  clear hSA hOA
                  have HM := HH
                  have HShM := HShR
                  generalize rot L s (m - s) (e - m) = M at *
                  have HSN := HSM
                  have HShN : Hid (Shuf a mid M M) := Shuf.refl _ _ _
                  have HSoN : Hid (Sorted M a mid) := by have h := HM.out.s2; rw [show s = a by omega] at h; exact h
                  have HON := HOM
                  have he1 := HE1.out
                  have HRt := hide (HM.out.right (by omega) HShN.out)
                  clear he1
                  go_wp2_with fail
                  have hcall := IH.out mid e b M _ (by omega) (by omega) (by omega) (by omega) HSN.out HRt.out.1 HRt.out.2.1 HRt.out.2.2
                  unfold SymOk at hcall
                  refine hcall.mono ?_
                  clear hcall
                  rintro x wC ⟨rfl, R, hSR, hShR, hSoR, hOR⟩
                  have HSR := hide hSR
                  have HShR2 := hide hShR
                  have HSoR := hide hSoR
                  have HOR := hide (HON.out.trans hOR)
                  clear hSR hShR hSoR hOR
                  go_wp2
                  go_end0
                  exact ⟨rfl, R, HSR.out, (HShM.out.trans (HShN.out.mono (Nat.le_refl _) (by omega))).trans (HShR2.out.mono (by omega) (Nat.le_refl _)), HM.out.join (by omega) (by omega) HShN.out HSoN.out HShR2.out HSoR.out, HOR.out⟩
              · first
                | (exfalso; omega)
                | have d1 : decide ((s : Int) < (m : Int)) = true := by simp; omega
                  have d2 : decide ((m : Int) < (e : Int)) = true := by simp; omega
                  have d3 : decide ((a : Int) < (s : Int)) = false := by simp; omega
                  have d4 : decide ((s : Int) < (mid : Int)) = true := by simp; omega
                  have d5 : decide ((mid : Int) < (e : Int)) = true := by simp; omega
                  have d6 : decide ((e : Int) < (b : Int)) = false := by simp; omega
                  clear he1
                  go_wp2_with fail
                  refine (rotate_any g n cap s m e L _ hn hcap (by omega) (by omega) (by omega) HSt.out _).mono ?_
                  rintro x wA ⟨rfl, hSA, hOA⟩
                  have HSM := hide hSA
                  have HOM := hide (HOt.out.trans hOA)
                  clear hSA hOA
                  have HM := HH
                  have HShM := HShR
                  generalize rot L s (m - s) (e - m) = M at *
                  have HSN := HSM
                  have HShN : Hid (Shuf a mid M M) := Shuf.refl _ _ _
                  have HSoN : Hid (Sorted M a mid) := by have h := HM.out.s2; rw [show s = a by omega] at h; exact h
                  have HON := HOM
                  have he1 := HE1.out
                  have HRt := hide (HM.out.right (by omega) HShN.out)
                  clear he1
                  have HSR := HSN
                  have HShR2 : Hid (Shuf mid b M M) := Shuf.refl _ _ _
                  have HSoR : Hid (Sorted M mid b) := by have h := HRt.out.1; rw [show e = b by omega] at h; exact h
                  have HOR := HON
                  go_wp2
                  go_end0
                  exact ⟨rfl, M, HSR.out, (HShM.out.trans (HShN.out.mono (Nat.le_refl _) (by omega))).trans (HShR2.out.mono (by omega) (Nat.le_refl _)), HM.out.join (by omega) (by omega) HShN.out HSoN.out HShR2.out HSoR.out, HOR.out⟩
          · first
            | (exfalso; omega)
            | have d1 : decide ((s : Int) < (m : Int)) = true := by simp; omega
              have d2 : decide ((m : Int) < (e : Int)) = false := by simp; omega
              have d3 : decide ((a : Int) < (s : Int)) = true := by simp; omega
              have d4 : decide ((s : Int) < (mid : Int)) = false := by simp; omega
              have d5 : decide ((mid : Int) < (e : Int)) = true := by simp; omega
              have d6 : decide ((e : Int) < (b : Int)) = true := by simp; omega
              clear he1
              have hM : rot L s (m - s) (e - m) = L := by rw [show e - m = 0 by omega]; exact rot_nil' _ _ _
              have HM : Hid (Halves L a s mid e b) := by have := HH.out; rw [hM] at this; exact this
              have HShM : Hid (Shuf a b L L) := Shuf.refl _ _ _
              clear hM HH HShR
              have HSM := HSt
              have HOM := HOt
              have HSN := HSM
              have HShN : Hid (Shuf a mid L L) := Shuf.refl _ _ _
              have HSoN : Hid (Sorted L a mid) := by have h := HM.out.s1; rw [show s = mid by omega] at h; exact h
              have HON := HOM
              have he1 := HE1.out
              have HRt := hide (HM.out.right (by omega) HShN.out)
              clear he1
              go_wp2_with fail
              have hcall := IH.out mid e b L _ (by omega) (by omega) (by omega) (by omega) HSN.out HRt.out.1 HRt.out.2.1 HRt.out.2.2
              unfold SymOk at hcall
              refine hcall.mono ?_
              clear hcall
              rintro x wC ⟨rfl, R, hSR, hShR, hSoR, hOR⟩
              have HSR := hide hSR
              have HShR2 := hide hShR
              have HSoR := hide hSoR
              have HOR := hide (HON.out.trans hOR)
              clear hSR hShR hSoR hOR
              go_wp2
              go_end0
              exact ⟨rfl, R, HSR.out, (HShM.out.trans (HShN.out.mono (Nat.le_refl _) (by omega))).trans (HShR2.out.mono (by omega) (Nat.le_refl _)), HM.out.join (by omega) (by omega) HShN.out HSoN.out HShR2.out HSoR.out, HOR.out⟩
        · rcases Nat.lt_or_ge s mid with q2 | q2
          · first
            | (exfalso; omega)
            | have d1 : decide ((s : Int) < (m : Int)) = false := by simp; omega
              have d2 : decide ((m : Int) < (e : Int)) = true := by simp; omega
              have d3 : decide ((a : Int) < (s : Int)) = true := by simp; omega
              have d4 : decide ((s : Int) < (mid : Int)) = true := by simp; omega
              have d5 : decide ((mid : Int) < (e : Int)) = false := by simp; omega
              have d6 : decide ((e : Int) < (b : Int)) = true := by simp; omega
              clear he1
              have hM : rot L s (m - s) (e - m) = L := by rw [show m - s = 0 by omega]; exact rot_nil _ _ _
              have HM : Hid (Halves L a s mid e b) := by have := HH.out; rw [hM] at this; exact this
              have HShM : Hid (Shuf a b L L) := Shuf.refl _ _ _
              clear hM HH HShR
              have HSM := HSt
              have HOM := HOt
              go_wp2_with fail
              have hcall := IH.out a s mid L _ (by omega) (by omega) (by omega) (by omega) HSM.out HM.out.s1 HM.out.s2 HM.out.m1
              unfold SymOk at hcall
              refine hcall.mono ?_
              clear hcall
              rintro x wB ⟨rfl, N, hSN, hShN, hSoN, hON⟩
              have HSN := hide hSN
              have HShN := hide hShN
              have HSoN := hide hSoN
              have HON := hide (HOM.out.trans hON)
              clear hSN hShN hSoN hON
              have he1 := HE1.out
              have HRt := hide (HM.out.right (by omega) HShN.out)
              clear he1
              have HSR := HSN
              have HShR2 : Hid (Shuf mid b N N) := Shuf.refl _ _ _
              have HSoR : Hid (Sorted N mid b) := by have he1 := HE1.out; have h := HRt.out.2.1; rw [show e = mid by omega] at h; exact h
              have HOR := HON
              go_wp2
              go_end0
              exact ⟨rfl, N, HSR.out, (HShM.out.trans (HShN.out.mono (Nat.le_refl _) (by omega))).trans (HShR2.out.mono (by omega) (Nat.le_refl _)), HM.out.join (by omega) (by omega) HShN.out HSoN.out HShR2.out HSoR.out, HOR.out⟩
          · first
            | (exfalso; omega)
            | have d1 : decide ((s : Int) < (m : Int)) = false := by simp; omega
              have d2 : decide ((m : Int) < (e : Int)) = false := by simp; omega
              have d3 : decide ((a : Int) < (s : Int)) = true := by simp; omega
              have d4 : decide ((s : Int) < (mid : Int)) = false := by simp; omega
              have d5 : decide ((mid : Int) < (e : Int)) = false := by simp; omega
              have d6 : decide ((e : Int) < (b : Int)) = true := by simp; omega
              clear he1
              have hM : rot L s (m - s) (e - m) = L := by rw [show m - s = 0 by omega]; exact rot_nil _ _ _
              have HM : Hid (Halves L a s mid e b) := by have := HH.out; rw [hM] at this; exact this
              have HShM : Hid (Shuf a b L L) := Shuf.refl _ _ _
              clear hM HH HShR
              have HSM := HSt
              have HOM := HOt
              have HSN := HSM
              have HShN : Hid (Shuf a mid L L) := Shuf.refl _ _ _
              have HSoN : Hid (Sorted L a mid) := by have h := HM.out.s1; rw [show s = mid by omega] at h; exact h
              have HON := HOM
              have he1 := HE1.out
              have HRt := hide (HM.out.right (by omega) HShN.out)
              clear he1
              have HSR := HSN
              have HShR2 : Hid (Shuf mid b L L) := Shuf.refl _ _ _
              have HSoR : Hid (Sorted L mid b) := by have he1 := HE1.out; have h := HRt.out.2.1; rw [show e = mid by omega] at h; exact h
              have HOR := HON
              go_wp2
              go_end0
              exact ⟨rfl, L, HSR.out, (HShM.out.trans (HShN.out.mono (Nat.le_refl _) (by omega))).trans (HShR2.out.mono (by omega) (Nat.le_refl _)), HM.out.join (by omega) (by omega) HShN.out HSoN.out HShR2.out HSoR.out, HOR.out⟩
end Go.Proofs.Ybulkoc
