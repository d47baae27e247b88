import Derived.Test.YbulkocS8
namespace Go.Proofs.Ybulkoc
set_option linter.unusedVariables false
open Go.RowKit

theorem symMerge_any (g n cap : Nat) (hn : n ≤ 4096) (hcap : n ≤ cap) : ∀ (d a m b : Nat) (L : Nat → E) (w : World), b - a ≤ d → a < m → m < b → b ≤ n → St w g n L → Sorted L a m → Sorted L m b → Mks L a m b → SymOk g n cap a m b L w := by
  intro d
  induction d with
  | zero => intro a m b L w h1 h2 h3; omega
  | succ d ih =>
    intro a m b L w h1 h2 h3 h4 h5 h6 h7 h8
    by_cases e1 : m = a + 1
    · subst e1
      exact symOne g n cap a (a + 1) b L w hn hcap rfl h3 h4 h5 h7 h8
    · by_cases e2 : b = m + 1
      · subst e2
        exact symLast g n cap a m (m + 1) L w hn hcap (by omega) rfl h4 h5 h6 h8
      · exact symGen g n cap a m b L w hn hcap (by omega) (by omega) h4 h5 h6 h7 h8 (fun a' m' b' L' w' k0 => ih a' m' b' L' w' (by omega))

theorem dvd_le {d c a : Nat} (hc : d ∣ c) (ha : d ∣ a) (h : c < a + d) : c ≤ a := by
  obtain ⟨k, rfl⟩ := hc
  obtain ⟨l, rfl⟩ := ha
  refine Nat.mul_le_mul_left d ?_
  have : d * k < d * (l + 1) := by rw [Nat.mul_add, Nat.mul_one]; exact h
  have := Nat.lt_of_mul_lt_mul_left this
  omega
theorem dvd_gt {d c a : Nat} (hc : d ∣ c) (ha : d ∣ a) (h : c < a) : c + d ≤ a := by
  rcases Nat.lt_or_ge a (c + d) with k | k
  · have := dvd_le ha hc k
    omega
  · exact k

theorem Mks.shuf {L L' : Nat → E} {a b m n : Nat} (h : Mks L 0 m n) (k : Shuf a b L L') (hm : m ≤ a ∨ b ≤ m) (hb : b ≤ n) : Mks L' 0 m n := by
  intro i j h1 h2 h3 h4
  have q1 : ∃ i', i' < m ∧ L' i = L i' := by
    rcases hm with hm | hm
    · exact ⟨i, h2, k.out (Or.inl (by omega))⟩
    · by_cases c : a ≤ i ∧ i < b
      · obtain ⟨i', e1, e2, e3⟩ := k.inn c.1 c.2
        exact ⟨i', by omega, e3⟩
      · exact ⟨i, h2, k.out (by omega)⟩
  have q2 : ∃ j', m ≤ j' ∧ j' < n ∧ L' j = L j' := by
    rcases hm with hm | hm
    · by_cases c : a ≤ j ∧ j < b
      · obtain ⟨j', e1, e2, e3⟩ := k.inn c.1 c.2
        exact ⟨j', by omega, by omega, e3⟩
      · exact ⟨j, h3, h4, k.out (by omega)⟩
    · exact ⟨j, h3, h4, k.out (Or.inr (by omega))⟩
  obtain ⟨i', a1, a2⟩ := q1
  obtain ⟨j', b1, b2, b3⟩ := q2
  rw [a2, b3]
  exact h i' j' (Nat.zero_le _) a1 b1 b2

/-- Sorted in blocks of B; every edge of a block parts the marks. -/
structure InvB (M : Nat → E) (n B : Nat) : Prop where
  s : ∀ c, B ∣ c → Sorted M c (min (c + B) n)
  k : ∀ c, B ∣ c → Mks M 0 c n
/-- Up to a in blocks of d, from there on in blocks of B. -/
structure Half (M : Nat → E) (n B d a : Nat) : Prop where
  lo : ∀ c, d ∣ c → c < a → Sorted M c (c + d)
  hi : ∀ c, B ∣ c → a ≤ c → Sorted M c (min (c + B) n)
  kd : ∀ c, d ∣ c → Mks M 0 c n
  kb : ∀ c, B ∣ c → a ≤ c → Mks M 0 c n

theorem InvB.one {L : Nat → E} {n : Nat} (h : Rising L 0 n) : InvB L n 1 :=
  ⟨fun c _ i j h1 h2 h3 => by omega, fun c _ i j h1 h2 h3 h4 => h i j h1 (by omega) h4⟩
theorem InvB.half {M : Nat → E} {n B d : Nat} (h : InvB M n B) (hd : B ∣ d) : Half M n B d 0 :=
  ⟨fun c _ h => by omega, fun c h1 _ => h.s c h1, fun c h1 => h.k c (Nat.dvd_trans hd h1), fun c h1 _ => h.k c h1⟩
theorem Half.step {M M' : Nat → E} {n B d a : Nat} (h : Half M n B d a) (ha : d ∣ a) (hn : a + d ≤ n) (k : Shuf a (a + d) M M') (hs : Sorted M' a (a + d)) : Half M' n B d (a + d) := by
  refine ⟨fun c h1 h2 => ?_, fun c h1 h2 => ?_, fun c h1 => ?_, fun c h1 h2 => ?_⟩
  · have hle := dvd_le h1 ha h2
    rcases Nat.eq_or_lt_of_le hle with e | e
    · rw [e]; exact hs
    · have hg := dvd_gt h1 ha e
      intro i j k1 k2 k3
      rw [k.out (Or.inl (by omega)), k.out (Or.inl (by omega))]
      exact h.lo c h1 e i j k1 k2 k3
  · intro i j k1 k2 k3
    rw [k.out (Or.inr (by omega)), k.out (Or.inr (by omega))]
    exact h.hi c h1 (by omega) i j k1 k2 k3
  · refine (h.kd c h1).shuf k ?_ hn
    rcases Nat.lt_or_ge a c with e | e
    · exact Or.inr (dvd_gt ha h1 e)
    · exact Or.inl e
  · exact (h.kb c h1 (by omega)).shuf k (Or.inr h2) hn
theorem Half.last {M M' : Nat → E} {n B d a : Nat} (h : Half M n B d a) (ha : d ∣ a) (hn : n < a + d) (han : a ≤ n) (k : Shuf a n M M') (hs : Sorted M' a n) : InvB M' n d := by
  refine ⟨fun c h1 => ?_, fun c h1 => ?_⟩
  · rcases Nat.lt_or_ge c (a + d) with e0 | e0
    · have hle := dvd_le h1 ha e0
      rcases Nat.eq_or_lt_of_le hle with e | e
      · rw [e, Nat.min_eq_right (by omega)]; exact hs
      · have hg := dvd_gt h1 ha e
        rw [Nat.min_eq_left (by omega)]
        intro i j k1 k2 k3
        rw [k.out (Or.inl (by omega)), k.out (Or.inl (by omega))]
        exact h.lo c h1 e i j k1 k2 k3
    · intro i j k1 k2 k3
      omega
  · rcases Nat.lt_or_ge a c with e | e
    · intro i j k1 k2 k3 k4
      have := dvd_gt ha h1 e
      omega
    · exact (h.kd c h1).shuf k (Or.inl e) (Nat.le_refl _)

set_option maxRecDepth 100000 in
set_option maxHeartbeats 4000000 in
theorem stable_any (g n cap : Nat) (L : Nat → E) (w : World) (hn : n ≤ 4096) (hcap : n ≤ cap) (hS : St w g n L) (hR : Rising L 0 n) :
    Calls Yba.prog 12 #[.slice (some ⟨g, 0, none⟩) n cap, .int .i64 n, .func (.func 9) #[] #[]] w fun e w' => e = .returned (.tuple #[]) ∧
      ∃ L', St w' g n L' ∧ Shuf 0 n L L' ∧ Sorted L' 0 n ∧ Oth g w w' := by
  have HS0 := hide hS
  have HR := hide hR
  clear hS hR
  go_enter Yba.func12, Yba.ntmps12
  go_wp2_with fail
  go_loopw [7, 8] (fun av bv wr => ∃ (a b : Nat) (M : Nat → E), av = .int .i64 a ∧ bv = .int .i64 b ∧ b ≤ a + 20 ∧ a + 20 ≤ b ∧ a ≤ n ∧ Hid (20 ∣ a ∧ St wr g n M ∧ Shuf 0 n L M ∧ Half M n 1 20 a ∧ Oth g w wr)) (fun av _ _ => n - (intOf av).toNat)
  case atStart => exact ⟨0, 20, L, by go_num, by go_num, by omega, by omega, Nat.zero_le _, ⟨0, rfl⟩, HS0.out, Shuf.refl _ _ _, (InvB.one HR.out).half ⟨20, rfl⟩, Oth.refl _ _⟩
  case round =>
    obtain ⟨a, b, M, rfl, rfl, hb1, hb2, han, HI⟩ := hrel
    have HRi : Hid (Rising M a n) := fun i j h1 h2 h3 => HI.out.2.2.2.1.kb j ⟨j, (Nat.one_mul j).symm⟩ (by omega) i j (Nat.zero_le _) h2 (Nat.le_refl _) h3
    by_cases hle : b ≤ n
    · have hd : decide ((b : Int) ≤ (n : Int)) = true := by simp; omega
      go_wp2_with fail
      refine (insertion_any g n cap a b M _ hn hcap (by omega) (by omega) HI.out.2.1 (fun i j h1 h2 h3 => HRi.out i j h1 h2 (by omega))).mono ?_
      rintro x w2 ⟨rfl, M', hS', hSh', hSo', hO'⟩
      have HJ : Hid (20 ∣ b ∧ St w2 g n M' ∧ Shuf 0 n L M' ∧ Half M' n 1 20 b ∧ Oth g w w2) := by
        obtain ⟨h1, h2, h3, h4, h5⟩ := HI.out
        obtain rfl : b = a + 20 := by omega
        exact ⟨Nat.dvd_add h1 (Nat.dvd_refl _), hS', h3.trans (hSh'.mono (Nat.zero_le _) (by omega)), h4.step h1 hle hSh' hSo', h5.trans hO'⟩
      clear hS' hSh' hSo' hO'
      go_wp2
      go_roundw
      case rel => exact ⟨b, b + 20, M', rfl, by go_num, by omega, by omega, by omega, HJ⟩
      case measure => simp [intOf]; omega
    · have hd : decide ((b : Int) ≤ (n : Int)) = false := by simp; omega
      go_wp2_with fail
      refine (insertion_any g n cap a n M _ hn hcap (by omega) (by omega) HI.out.2.1 HRi.out).mono ?_
      rintro x w2 ⟨rfl, M', hS', hSh', hSo', hO'⟩
      have HJ : Hid (St w2 g n M' ∧ Shuf 0 n L M' ∧ InvB M' n 20 ∧ Oth g w w2) := by
        obtain ⟨h1, h2, h3, h4, h5⟩ := HI.out
        exact ⟨hS', h3.trans (hSh'.mono (Nat.zero_le _) (Nat.le_refl _)), h4.last h1 (by omega) han hSh' hSo', h5.trans hO'⟩
      clear hS' hSh' hSo' hO'
      go_wp2_with fail
      go_loopw [6] (fun Bv wr => ∃ (B : Nat) (M : Nat → E), Bv = .int .i64 B ∧ 0 < B ∧ B ≤ 9000 ∧ Hid (St wr g n M ∧ Shuf 0 n L M ∧ InvB M n B ∧ Oth g w wr)) (fun Bv _ => n - (intOf Bv).toNat)
      case atStart => exact ⟨20, M', by go_num, by omega, by omega, HJ⟩
      case round =>
        obtain ⟨B, P, rfl, hB0, hB9, HK⟩ := hrel
        by_cases hlt : B < n
        · have hd2 : decide ((B : Int) < (n : Int)) = true := by simp; omega
          go_wp2_with fail
          go_loopw [7, 8] (fun av bv wr => ∃ (a b : Nat) (M : Nat → E), av = .int .i64 a ∧ bv = .int .i64 b ∧ b ≤ a + 2 * B ∧ a + 2 * B ≤ b ∧ a ≤ n ∧ Hid (2 * B ∣ a ∧ St wr g n M ∧ Shuf 0 n L M ∧ Half M n B (2 * B) a ∧ Oth g w wr)) (fun av _ _ => n - (intOf av).toNat)
          case atStart => exact ⟨0, 2 * B, P, by go_num, by go_num, by omega, by omega, Nat.zero_le _, ⟨0, rfl⟩, HK.out.1, HK.out.2.1, HK.out.2.2.1.half ⟨2, Nat.mul_comm _ _⟩, HK.out.2.2.2⟩
          case round =>
            obtain ⟨a2, b2, Q, rfl, rfl, hb3, hb4, ha2, HI2⟩ := hrel
            have HBa : Hid (B ∣ a2) := Nat.dvd_trans ⟨2, Nat.mul_comm _ _⟩ HI2.out.1
            have HBb : Hid (B ∣ a2 + B) := Nat.dvd_add HBa.out (Nat.dvd_refl _)
            have HSa : Hid (Sorted Q a2 (min (a2 + B) n)) := HI2.out.2.2.2.1.hi a2 HBa.out (Nat.le_refl _)
            have HSb : Hid (Sorted Q (a2 + B) (min (a2 + B + B) n)) := HI2.out.2.2.2.1.hi (a2 + B) HBb.out (by omega)
            have HMb : Hid (Mks Q 0 (a2 + B) n) := HI2.out.2.2.2.1.kb (a2 + B) HBb.out (by omega)
            by_cases hle2 : b2 ≤ n
            · have hd3 : decide ((b2 : Int) ≤ (n : Int)) = true := by simp; omega
              go_wp2_with fail
              rw [show (a2 : Int) + (B : Int) = ((a2 + B : Nat) : Int) by omega]
              have hcall := symMerge_any g n cap hn hcap _ a2 (a2 + B) b2 Q _ (Nat.le_refl _) (by omega) (by omega) hle2 HI2.out.2.1
                (by have h := HSa.out; rw [Nat.min_eq_left (by omega)] at h; exact h)
                (by have h := HSb.out; rw [Nat.min_eq_left (by omega), show a2 + B + B = b2 by omega] at h; exact h)
                (fun i j h1 h2 h3 h4 => HMb.out i j (Nat.zero_le _) h2 h3 (by omega))
              unfold SymOk at hcall
              refine hcall.mono ?_
              clear hcall
              rintro x w3 ⟨rfl, R, hS', hSh', hSo', hO'⟩
              have HJ3 : Hid (2 * B ∣ b2 ∧ St w3 g n R ∧ Shuf 0 n L R ∧ Half R n B (2 * B) b2 ∧ Oth g w w3) := by
                obtain ⟨h1, h2, h3, h4, h5⟩ := HI2.out
                obtain rfl : b2 = a2 + 2 * B := by omega
                exact ⟨Nat.dvd_add h1 (Nat.dvd_refl _), hS', h3.trans (hSh'.mono (Nat.zero_le _) (by omega)), h4.step h1 hle2 hSh' hSo', h5.trans hO'⟩
              clear hS' hSh' hSo' hO'
              go_wp2
              go_roundw
              case rel => exact ⟨b2, b2 + 2 * B, R, rfl, by go_num, by omega, by omega, by omega, HJ3⟩
              case measure => simp [intOf]; omega
            · have hd3 : decide ((b2 : Int) ≤ (n : Int)) = false := by simp; omega
              by_cases hm : a2 + B < n
              · have hd4 : decide ((a2 : Int) + (B : Int) < (n : Int)) = true := by simp; omega
                go_wp2_with fail
                rw [show (a2 : Int) + (B : Int) = ((a2 + B : Nat) : Int) by omega]
                have hcall := symMerge_any g n cap hn hcap _ a2 (a2 + B) n Q _ (Nat.le_refl _) (by omega) (by omega) (Nat.le_refl _) HI2.out.2.1
                  (by have h := HSa.out; rw [Nat.min_eq_left (by omega)] at h; exact h)
                  (by have h := HSb.out; rw [Nat.min_eq_right (by omega)] at h; exact h)
                  (fun i j h1 h2 h3 h4 => HMb.out i j (Nat.zero_le _) h2 h3 (by omega))
                unfold SymOk at hcall
                refine hcall.mono ?_
                clear hcall
                rintro x w3 ⟨rfl, R, hS', hSh', hSo', hO'⟩
                have HJ3 : Hid (St w3 g n R ∧ Shuf 0 n L R ∧ InvB R n (2 * B) ∧ Oth g w w3) := by
                  obtain ⟨h1, h2, h3, h4, h5⟩ := HI2.out
                  exact ⟨hS', h3.trans (hSh'.mono (Nat.zero_le _) (by omega)), h4.last h1 (by omega) ha2 hSh' hSo', h5.trans hO'⟩
                clear hS' hSh' hSo' hO'
                go_wp2
                go_roundw
                case rel => exact ⟨2 * B, R, by go_num, by omega, by omega, HJ3⟩
                case measure => simp [intOf]; omega
              · have hd4 : decide ((a2 : Int) + (B : Int) < (n : Int)) = false := by simp; omega
                have HJ3 : Hid (St wr g n Q ∧ Shuf 0 n L Q ∧ InvB Q n (2 * B) ∧ Oth g w wr) := by
                  obtain ⟨h1, h2, h3, h4, h5⟩ := HI2.out
                  exact ⟨h2, h3, h4.last h1 (by omega) ha2 (Shuf.refl _ _ _) (by have h := HSa.out; rw [Nat.min_eq_right (by omega)] at h; exact h), h5⟩
                go_wp2
                go_roundw
                case rel => exact ⟨2 * B, Q, by go_num, by omega, by omega, HJ3⟩
                case measure => simp [intOf]; omega
        · have hd2 : decide ((B : Int) < (n : Int)) = false := by simp; omega
          go_wp2
          go_end0
          refine ⟨rfl, P, HK.out.1, HK.out.2.1, ?_, HK.out.2.2.2⟩
          have h := HK.out.2.2.1.s 0 ⟨0, rfl⟩
          rw [Nat.min_eq_right (by omega)] at h
          exact h

/-- 'slices.SortStableFunc' by the instant. -/
theorem sort_any (g n cap : Nat) (L : Nat → E) (w : World) (hn : n ≤ 4096) (hcap : n ≤ cap) (hS : St w g n L) (hR : Rising L 0 n) :
    Calls Yba.prog 8 #[.slice (some ⟨g, 0, none⟩) n cap, .func (.func 9) #[] #[]] w fun e w' => e = .returned (.tuple #[]) ∧
      ∃ L', St w' g n L' ∧ Shuf 0 n L L' ∧ Sorted L' 0 n ∧ Oth g w w' := by
  have HS0 := hide hS
  have HR := hide hR
  clear hS hR
  go_enter Yba.func8, Yba.ntmps8
  go_wp2_with fail
  refine (stable_any g n cap L _ hn hcap HS0.out HR.out).mono ?_
  rintro x w2 ⟨rfl, h⟩
  have HH := hide h
  clear h
  go_wp2
  go_end0
  exact ⟨rfl, HH.out⟩

theorem insertion_nil (w : World) : Calls Yba.prog 14 #[.slice none 0 0, .int .i64 0, .int .i64 0, .func (.func 9) #[] #[]] w fun e w' => e = .returned (.tuple #[]) ∧ w' = w := by
  go_enter Yba.func14, Yba.ntmps14
  go_wp2_with fail
  go_loopw [8] (fun iv wr => iv = .int .i64 1 ∧ wr = w) (fun _ _ => 0)
  case atStart => exact ⟨by go_num, rfl⟩
  case round =>
    obtain ⟨rfl, rfl⟩ := hrel
    go_wp2
    go_end0
    exact ⟨rfl, rfl⟩
theorem stable_nil (w : World) : Calls Yba.prog 12 #[.slice none 0 0, .int .i64 0, .func (.func 9) #[] #[]] w fun e w' => e = .returned (.tuple #[]) ∧ w' = w := by
  go_enter Yba.func12, Yba.ntmps12
  go_wp2_with fail
  go_loopw [7, 8] (fun av bv wr => av = .int .i64 0 ∧ bv = .int .i64 20 ∧ wr = w) (fun _ _ _ => 0)
  case atStart => exact ⟨by go_num, by go_num, rfl⟩
  case round =>
    obtain ⟨rfl, rfl, rfl⟩ := hrel
    go_wp2_with fail
    refine (insertion_nil _).mono ?_
    rintro x w2 ⟨rfl, rfl⟩
    go_wp2_with fail
    go_loopw [6] (fun bv wr => bv = .int .i64 20 ∧ wr = w2) (fun _ _ => 0)
    case atStart => exact ⟨by go_num, rfl⟩
    case round =>
      obtain ⟨rfl, rfl⟩ := hrel
      go_wp2
      go_end0
      exact ⟨rfl, rfl⟩
/-- It leaves a nil slice alone. -/
theorem sort_nil (w : World) : Calls Yba.prog 8 #[.slice none 0 0, .func (.func 9) #[] #[]] w fun e w' => e = .returned (.tuple #[]) ∧ w' = w := by
  go_enter Yba.func8, Yba.ntmps8
  go_wp2_with fail
  refine (stable_nil _).mono ?_
  rintro x w2 ⟨rfl, rfl⟩
  go_wp2
  go_end0
  exact ⟨rfl, rfl⟩
end Go.Proofs.Ybulkoc
