import Derived.Test.YbulklyFmtW7
import Derived.LaidEql
namespace Go.Proofs.YbulklyFmt
set_option linter.unusedVariables false
open Go.RowKit Go.Extern.Stop Go.Stop Go.Extern

theorem run_neq_iface_ptr_same {P : Program} (w : World) {ti tp te : TypeId} {ms : Array (String × TypeId)} {i j : TypeInfo} (a : Addr)
    (hi : P.underlying ti = some (.interface ms)) (hp : P.underlying tp = some (.pointer te)) (hinfo : P.info? tp = some i) (hcomp : i.comparable = true) (hte : P.info? te = some j) :
    (binOp .neq ti (.iface tp (.pointer (some a))) (.iface tp (.pointer (some a)))).run P w = .ok (.bool false) w := by
  simp only [binOp]
  simp [Op.equal, Op.maxDepth, run_equalIn_iface_ptr_same w 9998 a hi hp hinfo hcomp hte]

theorem Ybaf.neq69 (a : Addr) (w : World) : (binOp .neq 29 (.iface 69 (.pointer (some a))) (.iface 69 (.pointer (some a)))).run Ybaf.prog w = .ok (.bool false) w := by
  have h1 : (Ybaf.prog.info? 69).map (·.comparable) = some true := by kernel_rfl
  have h2 : (Ybaf.prog.info? 71).map (·.size) = some 1 := by kernel_rfl
  obtain ⟨i, hi, hcmp⟩ := Option.map_eq_some_iff.1 h1
  obtain ⟨j, hj, hjs⟩ := Option.map_eq_some_iff.1 h2
  exact run_neq_iface_ptr_same w a Ybaf.underlying29 Ybaf.underlying69 hi hcmp hj
theorem Ybaf.neq95 (a : Addr) (w : World) : (binOp .neq 29 (.iface 95 (.pointer (some a))) (.iface 95 (.pointer (some a)))).run Ybaf.prog w = .ok (.bool false) w := by
  have h1 : (Ybaf.prog.info? 95).map (·.comparable) = some true := by kernel_rfl
  have h2 : (Ybaf.prog.info? 146).map (·.size) = some 2 := by kernel_rfl
  obtain ⟨i, hi, hcmp⟩ := Option.map_eq_some_iff.1 h1
  obtain ⟨j, hj, hjs⟩ := Option.map_eq_some_iff.1 h2
  exact run_neq_iface_ptr_same w a Ybaf.underlying29 Ybaf.underlying95 hi hcmp hj

theorem errorsNew_any (s : ByteArray) (w : World) :
    Calls Ybaf.prog 13 #[.string s] w fun e w' => e = .returned (.iface 69 (.pointer (some ⟨w.heap.size, 0, none⟩))) ∧ w' = w.alloc (.cells #[.string s] 71) := by
  go_enter Ybaf.func13, Ybaf.ntmps13
  go_wp2
  go_ret
  exact ⟨rfl, rfl⟩

theorem fail_nil (d : Nat) (sl : Value) (i pr : Int) (T : TypeId) (x : Value) (w : World) (hD : Dec w d sl i pr .nilIface) :
    Calls Ybaf.prog 17 #[.pointer (some ⟨d, 0, none⟩), .iface T x] w fun e w' => e = .returned (.tuple #[]) ∧ w' = w.setCell ⟨d, 3, none⟩ (.iface T x) := by
  have h3 := hD.c3
  have f3 := hD.fr 3
  go_enter Ybaf.func17, Ybaf.ntmps17
  go_wp2
  go_end0
  exact ⟨rfl, rfl⟩

theorem fail_err (d : Nat) (sl : Value) (i pr : Int) (T U : TypeId) (x y : Value) (w : World) (hD : Dec w d sl i pr (.iface T x)) :
    Calls Ybaf.prog 17 #[.pointer (some ⟨d, 0, none⟩), .iface U y] w fun e w' => e = .returned (.tuple #[]) ∧ w' = w := by
  have h3 := hD.c3
  go_enter Ybaf.func17, Ybaf.ntmps17
  go_wp2
  go_end0
  exact ⟨rfl, rfl⟩

/-- What holds of the decoder in the law's loop: not failed; failed by a read; failed by 'Fail'. -/
def St2 (wr : World) (d : Nat) (sl : Value) (len p : Nat) (fl bf : Bool) (sa : Addr) : Prop :=
  (fl = false ∧ bf = false ∧ p ≤ len ∧ ∃ pr, Dec wr d sl p pr .nilIface) ∨
  (fl = true ∧ bf = false ∧ ∃ i pr k, Dec wr d sl i pr (.iface 95 (.pointer (some ⟨k, 0, none⟩)))) ∨
  (fl = true ∧ bf = true ∧ ∃ i pr, Dec wr d sl i pr (.iface 69 (.pointer (some sa))))

/-- The script as it lies. -/
def Script (w : World) (B : Nat) (ol : Option Addr) (n : Nat) (os : List Int) : Prop :=
  0 < n → ∃ ob oo, ol = some ⟨ob, oo, none⟩ ∧ ob < B ∧ ∀ j, j < n → w.cell? ⟨ob, oo + j, none⟩ = some (.int .u8 (os.getD j 0))

theorem Script.below {w w' : World} {B n : Nat} {ol : Option Addr} {os : List Int} (h : Script w B ol n os) (hb : Below B w w') : Script w' B ol n os := fun hn => by
  obtain ⟨ob, oo, e, hlt, hc⟩ := h hn
  exact ⟨ob, oo, e, hlt, fun j hj => (hb.cell (p := ⟨ob, oo + j, none⟩) hlt).trans (hc j hj)⟩

theorem alloc_last (X : World) (o : Obj) : (X.alloc o).heap[X.heap.size]? = some o := by
  show (X.heap.push o)[X.heap.size]? = _
  simp
theorem Script.up {w : World} {B n : Nat} {ol : Option Addr} {os : List Int} (h : Script w B ol n os) : Script w (B + 1) ol n os := fun hn => by
  obtain ⟨ob, oo, e, hlt, hc⟩ := h hn
  exact ⟨ob, oo, e, Nat.lt_succ_of_lt hlt, hc⟩
theorem Src.up {w : World} {d len cap : Nat} {sl : Option Addr} {zs : List Int} (h : Src w d sl len cap zs) : Src w (d + 1) sl len cap zs :=
  ⟨h.hsize, h.hsmall, h.hcap, h.hmax, fun hl => by
    obtain ⟨sb, so, e, hlt, hc⟩ := h.hcells hl
    exact ⟨sb, so, e, Nat.lt_succ_of_lt hlt, hc⟩⟩
theorem Glob.up {w : World} {d : Nat} {a : Addr} {s0 : ByteArray} (h : Glob w d a s0) : Glob w (d + 1) a s0 :=
  ⟨Nat.lt_succ_of_lt h.two, h.eof, h.une, h.txt, Nat.lt_succ_of_lt h.lt⟩

set_option maxHeartbeats 8000000 in
theorem modelB_any (F : Interp) (sl : Option Addr) (len cap : Nat) (ol : Option Addr) (n ocap : Nat) (zs os : List Int) (a : Addr) (s0 : ByteArray) (w : World) (hF : F.answers w.tape)
    (hS : Src w w.heap.size sl len cap zs) (hG : Glob w w.heap.size a s0) (hy : Bytes zs) (hn : n ≤ 1024) (hO : Script w w.heap.size ol n os) (ho : Bytes os) :
    Calls Ybaf.prog 4 #[.slice sl len cap, .slice ol n ocap] w fun e w' => e = .returned (.bool true) ∧ Below w.heap.size w w' := by
  have hl := hS.hsmall
  have hdl : decide ((1024 : Int) < (len : Int)) = false := by simp; omega
  have hdn : decide ((1024 : Int) < (n : Int)) = false := by simp; omega
  have HS := hide hS
  have HG := hide hG
  have HY := hide hy
  have HO := hide hO
  have HZ := hide ho
  clear hS hG hy hO ho
  go_enter Ybaf.func4, Ybaf.ntmps4
  go_wp2_with fail
  refine (errorsNew_any _ _).mono ?_
  rintro e w1 ⟨rfl, rfl⟩
  go_wp2_with fail
  refine (newDecoder_any sl len cap _).mono ?_
  rintro e w1 ⟨rfl, rfl⟩
  go_wp2_with fail
  have hb1 := (Below.refl _ w).alloc (Nat.le_refl _) (.cells #[.string ⟨#[115, 116, 97, 110, 100, 45, 105, 110, 32, 102, 97, 105, 108, 117, 114, 101]⟩] 71)
  have hz1 : (w.alloc (.cells #[.string ⟨#[115, 116, 97, 110, 100, 45, 105, 110, 32, 102, 97, 105, 108, 117, 114, 101]⟩] 71)).heap.size = w.heap.size + 1 := by simp
  have hb2 := (Below.refl _ (w.alloc (.cells #[.string ⟨#[115, 116, 97, 110, 100, 45, 105, 110, 32, 102, 97, 105, 108, 117, 114, 101]⟩] 71))).alloc (Nat.le_refl _) (.cells #[.slice sl len cap, .int .i64 0, .int .i64 (-1), .nilIface] 35)
  have D1 : Dec ((w.alloc (.cells #[.string ⟨#[115, 116, 97, 110, 100, 45, 105, 110, 32, 102, 97, 105, 108, 117, 114, 101]⟩] 71)).alloc (.cells #[.slice sl len cap, .int .i64 0, .int .i64 (-1), .nilIface] 35)) (w.heap.size + 1) (.slice sl len cap) (0 : Nat) (-1) .nilIface := by
    have h := alloc_last (w.alloc (.cells #[.string ⟨#[115, 116, 97, 110, 100, 45, 105, 110, 32, 102, 97, 105, 108, 117, 114, 101]⟩] 71)) (.cells #[.slice sl len cap, .int .i64 0, .int .i64 (-1), .nilIface] 35)
    rw [hz1] at h
    exact h
  rw [hz1] at hb2
  have HS1 := hide ((HS.out.below hb1).up)
  have HG1 := hide ((HG.out.below hb1).up)
  have HO1 := hide ((HO.out.below hb1).up)
  have HF1 : Hid (F.answers (w.alloc (.cells #[.string ⟨#[115, 116, 97, 110, 100, 45, 105, 110, 32, 102, 97, 105, 108, 117, 114, 101]⟩] 71)).tape) := hF
  have HD1 := hide D1
  have HB1 := hide hb1
  have HB2 := hide hb2
  clear HS HG HO D1 hb1 hb2 hz1 hF
  generalize (w.alloc (.cells #[.string ⟨#[115, 116, 97, 110, 100, 45, 105, 110, 32, 102, 97, 105, 108, 117, 114, 101]⟩] 71)).alloc (.cells #[.slice sl len cap, .int .i64 0, .int .i64 (-1), .nilIface] 35) = w2 at *
  generalize w.alloc (.cells #[.string ⟨#[115, 116, 97, 110, 100, 45, 105, 110, 32, 102, 97, 105, 108, 117, 114, 101]⟩] 71) = w1 at *
  generalize hB : w.heap.size = B at *
  have HBz := hide hB
  clear hB
  generalize hd : B + 1 = d at *
  have HDz := hide hd
  clear hd
  go_loopw [7, 8, 9, 28] (fun pv fv bv iv wr => ∃ (k p : Nat) (fl bf : Bool), pv = .int .i64 p ∧ fv = .bool fl ∧ bv = .bool bf ∧ iv = .int .i64 k ∧ k ≤ n ∧ p ≤ len ∧ St2 wr d (.slice sl len cap) len p fl bf ⟨B, 0, none⟩ ∧ Below d w1 wr) (fun _ _ _ iv _ => n - (intOf iv).toNat)
  case atStart => exact ⟨0, 0, false, false, rfl, rfl, rfl, rfl, Nat.zero_le _, Nat.zero_le _, Or.inl ⟨rfl, rfl, Nat.zero_le _, _, HD1.out⟩, HB2.out⟩
  case round =>
    obtain ⟨k, p, fl, bf, rfl, rfl, rfl, rfl, hk, hp, hst, hb⟩ := hrel
    by_cases hlt : k < n
    · obtain ⟨ob, oo, rfl, hob, hoc⟩ := (HO1.out.below hb) (by omega)
      obtain ⟨v, hv⟩ : ∃ v, v = os.getD k 0 := ⟨_, rfl⟩
      have hc := hoc k hlt
      have hv0 := (HZ.out k).1
      have hv1 := (HZ.out k).2
      rw [← hv] at hc hv0 hv1
      clear hv hoc
      have hFr : F.answers wr.tape := by rw [hb.tape]; exact HF1.out
      have hSr := HS1.out.below hb
      have hGr := HG1.out.below hb
      have HB := hide hb
      clear hb
      have hr : v % 5 = 0 ∨ v % 5 = 1 ∨ v % 5 = 2 ∨ v % 5 = 3 ∨ v % 5 = 4 := by omega
      rcases hst with ⟨rfl, rfl, _, pr, hD⟩ | ⟨rfl, rfl, i0, pr, kk, hD⟩ | ⟨rfl, rfl, i0, pr, hD⟩
      · rcases hr with hr | hr | hr | hr | hr
        · have HC := hide (u8_read F d sl len cap p pr zs a s0 _ hFr hD hp hSr hGr)
          clear hD hSr hGr hFr
          go_wp2_with fail
          refine HC.out.mono ?_
          rintro e w' ⟨rfl, h1, h3⟩
          have HB3 : Hid (Below d w1 w') := HB.out.trans h3
          clear h3
          rcases h1 with ⟨hle, hD'⟩ | ⟨hgt, kk, pr', hD', _⟩
          · have HD' := hide hD'
            clear hD'
            go_wp2
            go_roundw
            case rel => exact ⟨k + 1, p + 1, false, false, by go_num, rfl, rfl, by go_num, by omega, hle, Or.inl ⟨rfl, rfl, hle, _, HD'.out⟩, HB3.out⟩
            case measure => simp [intOf]; omega
          · have HD' := hide hD'
            clear hD'
            go_wp2
            go_roundw
            case rel => exact ⟨k + 1, len, true, false, rfl, rfl, rfl, by go_num, by omega, Nat.le_refl _, Or.inr (Or.inl ⟨rfl, rfl, _, _, _, HD'.out⟩), HB3.out⟩
            case measure => simp [intOf]; omega
        · have HC := hide (u16_read F d sl len cap p pr zs a s0 _ hFr hD hp hSr hGr HY.out)
          clear hD hSr hGr hFr
          go_wp2_with fail
          refine HC.out.mono ?_
          rintro e w' ⟨⟨xv, rfl⟩, h1, h3⟩
          have HB3 : Hid (Below d w1 w') := HB.out.trans h3
          clear h3
          rcases h1 with ⟨hle, hD'⟩ | ⟨hgt, kk, pr', hD', _⟩
          · have HD' := hide hD'
            clear hD'
            go_wp2
            go_roundw
            case rel => exact ⟨k + 1, p + 2, false, false, by go_num, rfl, rfl, by go_num, by omega, hle, Or.inl ⟨rfl, rfl, hle, _, HD'.out⟩, HB3.out⟩
            case measure => simp [intOf]; omega
          · have HD' := hide hD'
            clear hD'
            go_wp2
            go_roundw
            case rel => exact ⟨k + 1, len, true, false, rfl, rfl, rfl, by go_num, by omega, Nat.le_refl _, Or.inr (Or.inl ⟨rfl, rfl, _, _, _, HD'.out⟩), HB3.out⟩
            case measure => simp [intOf]; omega
        · have HC := hide (u32_read F d sl len cap p pr zs a s0 _ hFr hD hp hSr hGr HY.out)
          clear hD hSr hGr hFr
          go_wp2_with fail
          refine HC.out.mono ?_
          rintro e w' ⟨rfl, h1, h3⟩
          have HB3 : Hid (Below d w1 w') := HB.out.trans h3
          clear h3
          rcases h1 with ⟨hle, hD'⟩ | ⟨hgt, kk, pr', hD', _⟩
          · have HD' := hide hD'
            clear hD'
            go_wp2
            go_roundw
            case rel => exact ⟨k + 1, p + 4, false, false, by go_num, rfl, rfl, by go_num, by omega, hle, Or.inl ⟨rfl, rfl, hle, _, HD'.out⟩, HB3.out⟩
            case measure => simp [intOf]; omega
          · have HD' := hide hD'
            clear hD'
            go_wp2
            go_roundw
            case rel => exact ⟨k + 1, len, true, false, rfl, rfl, rfl, by go_num, by omega, Nat.le_refl _, Or.inr (Or.inl ⟨rfl, rfl, _, _, _, HD'.out⟩), HB3.out⟩
            case measure => simp [intOf]; omega
        · have HC := hide (u64_read F d sl len cap p pr zs a s0 _ hFr hD hp hSr hGr HY.out)
          clear hD hSr hGr hFr
          go_wp2_with fail
          refine HC.out.mono ?_
          rintro e w' ⟨⟨xv, rfl⟩, h1, h3⟩
          have HB3 : Hid (Below d w1 w') := HB.out.trans h3
          clear h3
          rcases h1 with ⟨hle, hD'⟩ | ⟨hgt, kk, pr', hD', _⟩
          · have HD' := hide hD'
            clear hD'
            go_wp2
            go_roundw
            case rel => exact ⟨k + 1, p + 8, false, false, by go_num, rfl, rfl, by go_num, by omega, hle, Or.inl ⟨rfl, rfl, hle, _, HD'.out⟩, HB3.out⟩
            case measure => simp [intOf]; omega
          · have HD' := hide hD'
            clear hD'
            go_wp2
            go_roundw
            case rel => exact ⟨k + 1, len, true, false, rfl, rfl, rfl, by go_num, by omega, Nat.le_refl _, Or.inr (Or.inl ⟨rfl, rfl, _, _, _, HD'.out⟩), HB3.out⟩
            case measure => simp [intOf]; omega
        · have HC := hide (fail_nil d _ _ _ 69 (.pointer (some ⟨B, 0, none⟩)) _ hD)
          have HD4 := hide (hD.set3 (.iface 69 (.pointer (some ⟨B, 0, none⟩))))
          clear hD hSr hGr hFr
          go_wp2_with fail
          refine HC.out.mono ?_
          rintro e w' ⟨rfl, rfl⟩
          have HB3 : Hid (Below d w1 (wr.setCell ⟨d, 3, none⟩ (.iface 69 (.pointer (some ⟨B, 0, none⟩))))) := HB.out.setCell (p := ⟨d, 3, none⟩) (Nat.le_refl d) _
          go_wp2
          go_roundw
          case rel => exact ⟨k + 1, p, true, true, rfl, rfl, rfl, by go_num, by omega, hp, Or.inr (Or.inr ⟨rfl, rfl, _, _, HD4.out⟩), HB3.out⟩
          case measure => simp [intOf]; omega
      · rcases hr with hr | hr | hr | hr | hr
        · have HC := hide (u8_err d _ _ _ _ _ _ hD)
          have HD := hide hD
          have hdz := hD.lt
          clear hD hSr hGr hFr
          go_wp2_with fail
          refine HC.out.mono ?_
          rintro e w' ⟨rfl, h3⟩
          have H3 := hide h3
          clear h3
          go_wp2
          go_roundw
          case rel => exact ⟨k + 1, p, true, false, rfl, rfl, rfl, by go_num, by omega, hp, Or.inr (Or.inl ⟨rfl, rfl, _, _, _, HD.out.below H3.out hdz⟩), HB.out.trans (H3.out.mono (Nat.le_of_lt hdz))⟩
          case measure => simp [intOf]; omega
        · have HC := hide (u16_err d _ _ _ _ _ _ hD)
          have HD := hide hD
          have hdz := hD.lt
          clear hD hSr hGr hFr
          go_wp2_with fail
          refine HC.out.mono ?_
          rintro e w' ⟨⟨xv, rfl⟩, h3⟩
          have H3 := hide h3
          clear h3
          go_wp2
          go_roundw
          case rel => exact ⟨k + 1, p, true, false, rfl, rfl, rfl, by go_num, by omega, hp, Or.inr (Or.inl ⟨rfl, rfl, _, _, _, HD.out.below H3.out hdz⟩), HB.out.trans (H3.out.mono (Nat.le_of_lt hdz))⟩
          case measure => simp [intOf]; omega
        · have HC := hide (u32_err d _ _ _ _ _ _ hD)
          have HD := hide hD
          have hdz := hD.lt
          clear hD hSr hGr hFr
          go_wp2_with fail
          refine HC.out.mono ?_
          rintro e w' ⟨rfl, h3⟩
          have H3 := hide h3
          clear h3
          go_wp2
          go_roundw
          case rel => exact ⟨k + 1, p, true, false, rfl, rfl, rfl, by go_num, by omega, hp, Or.inr (Or.inl ⟨rfl, rfl, _, _, _, HD.out.below H3.out hdz⟩), HB.out.trans (H3.out.mono (Nat.le_of_lt hdz))⟩
          case measure => simp [intOf]; omega
        · have HC := hide (u64_err d _ _ _ _ _ _ hD)
          have HD := hide hD
          have hdz := hD.lt
          clear hD hSr hGr hFr
          go_wp2_with fail
          refine HC.out.mono ?_
          rintro e w' ⟨⟨xv, rfl⟩, h3⟩
          have H3 := hide h3
          clear h3
          go_wp2
          go_roundw
          case rel => exact ⟨k + 1, p, true, false, rfl, rfl, rfl, by go_num, by omega, hp, Or.inr (Or.inl ⟨rfl, rfl, _, _, _, HD.out.below H3.out hdz⟩), HB.out.trans (H3.out.mono (Nat.le_of_lt hdz))⟩
          case measure => simp [intOf]; omega
        · have HC := hide (fail_err d _ _ _ _ 69 _ (.pointer (some ⟨B, 0, none⟩)) _ hD)
          have HD := hide hD
          clear hD hSr hGr hFr
          go_wp2_with fail
          refine HC.out.mono ?_
          rintro e w' ⟨rfl, rfl⟩
          go_wp2
          go_roundw
          case rel => exact ⟨k + 1, p, true, false, rfl, rfl, rfl, by go_num, by omega, hp, Or.inr (Or.inl ⟨rfl, rfl, _, _, _, HD.out⟩), HB.out⟩
          case measure => simp [intOf]; omega
      · rcases hr with hr | hr | hr | hr | hr
        · have HC := hide (u8_err d _ _ _ _ _ _ hD)
          have HD := hide hD
          have hdz := hD.lt
          clear hD hSr hGr hFr
          go_wp2_with fail
          refine HC.out.mono ?_
          rintro e w' ⟨rfl, h3⟩
          have H3 := hide h3
          clear h3
          go_wp2
          go_roundw
          case rel => exact ⟨k + 1, p, true, true, rfl, rfl, rfl, by go_num, by omega, hp, Or.inr (Or.inr ⟨rfl, rfl, _, _, HD.out.below H3.out hdz⟩), HB.out.trans (H3.out.mono (Nat.le_of_lt hdz))⟩
          case measure => simp [intOf]; omega
        · have HC := hide (u16_err d _ _ _ _ _ _ hD)
          have HD := hide hD
          have hdz := hD.lt
          clear hD hSr hGr hFr
          go_wp2_with fail
          refine HC.out.mono ?_
          rintro e w' ⟨⟨xv, rfl⟩, h3⟩
          have H3 := hide h3
          clear h3
          go_wp2
          go_roundw
          case rel => exact ⟨k + 1, p, true, true, rfl, rfl, rfl, by go_num, by omega, hp, Or.inr (Or.inr ⟨rfl, rfl, _, _, HD.out.below H3.out hdz⟩), HB.out.trans (H3.out.mono (Nat.le_of_lt hdz))⟩
          case measure => simp [intOf]; omega
        · have HC := hide (u32_err d _ _ _ _ _ _ hD)
          have HD := hide hD
          have hdz := hD.lt
          clear hD hSr hGr hFr
          go_wp2_with fail
          refine HC.out.mono ?_
          rintro e w' ⟨rfl, h3⟩
          have H3 := hide h3
          clear h3
          go_wp2
          go_roundw
          case rel => exact ⟨k + 1, p, true, true, rfl, rfl, rfl, by go_num, by omega, hp, Or.inr (Or.inr ⟨rfl, rfl, _, _, HD.out.below H3.out hdz⟩), HB.out.trans (H3.out.mono (Nat.le_of_lt hdz))⟩
          case measure => simp [intOf]; omega
        · have HC := hide (u64_err d _ _ _ _ _ _ hD)
          have HD := hide hD
          have hdz := hD.lt
          clear hD hSr hGr hFr
          go_wp2_with fail
          refine HC.out.mono ?_
          rintro e w' ⟨⟨xv, rfl⟩, h3⟩
          have H3 := hide h3
          clear h3
          go_wp2
          go_roundw
          case rel => exact ⟨k + 1, p, true, true, rfl, rfl, rfl, by go_num, by omega, hp, Or.inr (Or.inr ⟨rfl, rfl, _, _, HD.out.below H3.out hdz⟩), HB.out.trans (H3.out.mono (Nat.le_of_lt hdz))⟩
          case measure => simp [intOf]; omega
        · have HC := hide (fail_err d _ _ _ _ 69 _ (.pointer (some ⟨B, 0, none⟩)) _ hD)
          have HD := hide hD
          clear hD hSr hGr hFr
          go_wp2_with fail
          refine HC.out.mono ?_
          rintro e w' ⟨rfl, rfl⟩
          go_wp2
          go_roundw
          case rel => exact ⟨k + 1, p, true, true, rfl, rfl, rfl, by go_num, by omega, hp, Or.inr (Or.inr ⟨rfl, rfl, _, _, HD.out⟩), HB.out⟩
          case measure => simp [intOf]; omega
    · obtain rfl : k = n := by omega
      have hFr : F.answers wr.tape := by rw [hb.tape]; exact HF1.out
      have HB : Hid (Below w.heap.size w wr) := by
        have h1 := HBz.out
        have h2 := HDz.out
        rw [h1]
        exact HB1.out.trans (hb.mono (by omega))
      have hsz := hb.size
      clear hb
      rcases hst with ⟨rfl, rfl, _, pr, hD⟩ | ⟨rfl, rfl, i0, pr, kk, hD⟩ | ⟨rfl, rfl, i0, pr, hD⟩
      · have HD := hide hD
        have hdz := hD.lt
        clear hD
        by_cases hpl : p < len
        · have hpe : ((p : Int) == (len : Int)) = false := by simp; omega
          go_wp2_with fail
          refine (end_left F d sl len cap p pr _ hFr HD.out hpl hl).mono ?_
          rintro e w' ⟨⟨ad, rfl⟩, h⟩
          have H := hide h
          have HD2 := hide (HD.out.below h hdz)
          clear h
          go_wp2_with fail
          refine (err_any d _ _ _ _ _ HD2.out).mono ?_
          rintro e w'' ⟨rfl, rfl⟩
          go_wp2
          go_ret
          exact ⟨rfl, HB.out.trans (H.out.mono HB.out.size)⟩
        · obtain rfl : p = len := by omega
          go_wp2_with fail
          refine (end_none d sl p cap p pr _ HD.out rfl hl).mono ?_
          rintro e w' ⟨rfl, q, rfl⟩
          go_wp2_with fail
          refine (err_any d _ _ _ _ _ (HD.out.drewN q)).mono ?_
          rintro e w'' ⟨rfl, rfl⟩
          go_wp2
          go_ret
          exact ⟨rfl, below_drewN HB.out q⟩
      · have HD := hide hD
        have hq := Ybaf.neq95 ⟨kk, 0, none⟩
        clear hD
        go_wp2_with fail
        refine (end_err d _ _ _ _ _ _ HD.out).mono ?_
        rintro e w' ⟨rfl, rfl⟩
        go_wp2_with fail
        refine (err_any d _ _ _ _ _ HD.out).mono ?_
        rintro e w'' ⟨rfl, rfl⟩
        go_wp2
        go_ret
        exact ⟨rfl, HB.out⟩
      · have HD := hide hD
        have hq := Ybaf.neq69 ⟨B, 0, none⟩
        clear hD
        go_wp2_with fail
        refine (end_err d _ _ _ _ _ _ HD.out).mono ?_
        rintro e w' ⟨rfl, rfl⟩
        go_wp2_with fail
        refine (err_any d _ _ _ _ _ HD.out).mono ?_
        rintro e w'' ⟨rfl, rfl⟩
        go_wp2
        go_ret
        exact ⟨rfl, HB.out⟩
end Go.Proofs.YbulklyFmt
