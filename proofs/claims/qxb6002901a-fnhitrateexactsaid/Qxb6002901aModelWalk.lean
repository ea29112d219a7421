/-
  THE WALK of zzModelRate (7): the long division, the rounding, the halvings. Its cases were laid out by a small script of the prover's.
-/
import Derived.Test.Qxb6002901aRate
import Derived.Test.Qxb6002901aModel
namespace Go.Proofs.Qxb6002901a
open Go.RowKit

theorem ret_float {k : FloatKind} {a b : Nat} (h : a = b) : Ending.returned (.float k a) = .returned (.float k b) := by rw [h]

set_option maxHeartbeats 2000000 in
set_option maxRecDepth 100000 in
theorem model_any (h m s : Nat) (h1 : 1 ≤ h) (hs : s ≤ 9007199254740992) (hm : Hid (s = h + m)) (m1 : h < s) (w : World) :
    Calls Try.prog 7 #[.int .u64 (h : Int), .int .u64 (s : Int)] w fun e w' => e = .returned (.float .f64 (hr h m)) ∧ w' = w := by
  go_enter Try.func7, Try.ntmps7
  go_wp2
  go_loop [5, 6, 7] (fun rem ld i => ∃ j x : Nat, x = h * 2 ^ j ∧ x < s ∧ rem = .int .u64 (x : Int) ∧ ld = .int .i64 (j : Int) ∧ i = .int .i64 (j : Int)) (fun _ _ i => 60 - (intOf i).toNat)
  case atStart => exact ⟨0, h, by simp, m1, rfl, rfl, rfl⟩
  case round =>
    obtain ⟨j, x, hx, hxs, rfl, rfl, rfl⟩ := hrel
    have hj : j ≤ 52 := by
      have h2 : 1 * 2 ^ j ≤ h * 2 ^ j := Nat.mul_le_mul_right _ h1
      have h3 : 2 ^ j < 2 ^ 53 := by omega
      have := (Nat.pow_lt_pow_iff_right (a := 2) (by decide)).1 h3
      omega
    have HX : Hid (x = h * 2 ^ j) := hx
    clear hx
    by_cases hge : s ≤ x * 2
    · have d1 : decide ((s : Int) ≤ (x : Int) * 2) = true := decide_eq_true (by omega)
      obtain ⟨x1, hx1⟩ : ∃ x1 : Nat, x1 + s = x * 2 := ⟨x * 2 - s, by omega⟩
      have hx1s : x1 < s := by omega
      have hx1e : (x : Int) * 2 - (s : Int) = (x1 : Int) := by omega
      have HX1 : Hid (1 * s + x1 = h * 2 ^ (j + 1)) := by
        show _ = _
        rw [Nat.pow_succ, ← Nat.mul_assoc, ← HX.out]; omega
      have HX1E : Hid ((x : Int) * 2 - (s : Int) = (x1 : Int)) := hx1e
      clear hx1 hx1e
      go_wp2
      go_loop [5, 8, 9] (fun rem q i => ∃ t q1 y : Nat, t ≤ 52 ∧ q1 * s + y = h * 2 ^ (j + 1 + t) ∧ y < s ∧ 2 ^ t ≤ q1 ∧ q1 < 2 * 2 ^ t ∧ rem = .int .u64 (y : Int) ∧ q = .int .u64 (q1 : Int) ∧ i = .int .i64 (t : Int)) (fun _ _ i => 52 - (intOf i).toNat)
      case atStart => exact ⟨0, 1, x1, by omega, HX1.out, hx1s, by decide, by decide, by rw [HX1E.out], rfl, rfl⟩
      case round =>
        obtain ⟨t, q, y, ht, he, hys, hq1, hq2, rfl, rfl, rfl⟩ := hrel
        have HE : Hid (q * s + y = h * 2 ^ (j + 1 + t)) := he
        have hpt : 2 ^ t ≤ 2 ^ 52 := Nat.pow_le_pow_right (by decide) ht
        have hqb : q < 9007199254740992 := by omega
        clear he
        by_cases hend : t < 52
        · have HQ : Hid (2 ^ t ≤ q ∧ q < 2 * 2 ^ t) := ⟨hq1, hq2⟩
          have hst := ld_step h s (j + 1 + t) q y HE.out
          have hpt2 : 2 ^ (t + 1) = 2 * 2 ^ t := by rw [Nat.pow_succ, Nat.mul_comm]
          by_cases hc : s ≤ y * 2
          · have d2 : decide ((s : Int) ≤ (y : Int) * 2) = true := decide_eq_true (by omega)
            obtain ⟨y2, hy2⟩ : ∃ y2 : Nat, y2 + s = y * 2 := ⟨y * 2 - s, by omega⟩
            have HN : Hid ((q * 2 + 1) * s + y2 = h * 2 ^ (j + 1 + (t + 1)) ∧ y2 < s ∧ (y : Int) * 2 - (s : Int) = (y2 : Int) ∧ 2 ^ (t + 1) ≤ q * 2 + 1 ∧ q * 2 + 1 < 2 * 2 ^ (t + 1)) :=
              ⟨by rw [show j + 1 + (t + 1) = j + 1 + t + 1 by omega, ← hst, Nat.add_mul, Nat.one_mul, Nat.mul_comm q 2]; omega, by omega, by omega, by omega, by omega⟩
            clear hst hpt2 hy2 hq1 hq2 hpt
            go_wp2
            go_round
            case rel => exact ⟨t + 1, q * 2 + 1, y2, by omega, HN.out.1, HN.out.2.1, HN.out.2.2.2.1, HN.out.2.2.2.2, by rw [HN.out.2.2.1], by go_num, by go_num⟩
            case measure => simp [intOf]; omega
          · have d2 : decide ((s : Int) ≤ (y : Int) * 2) = false := decide_eq_false (by omega)
            have HN : Hid (q * 2 * s + y * 2 = h * 2 ^ (j + 1 + (t + 1)) ∧ y * 2 < s ∧ 2 ^ (t + 1) ≤ q * 2 ∧ q * 2 < 2 * 2 ^ (t + 1)) :=
              ⟨by rw [show j + 1 + (t + 1) = j + 1 + t + 1 by omega, ← hst, Nat.mul_comm q 2, Nat.mul_comm y 2], by omega, by omega, by omega⟩
            clear hst hpt2 hq1 hq2 hpt
            go_wp2
            go_round
            case rel => exact ⟨t + 1, q * 2, y * 2, by omega, HN.out.1, HN.out.2.1, HN.out.2.2.1, HN.out.2.2.2, by go_num, by go_num, by go_num⟩
            case measure => simp [intOf]; omega
        · have ht52 : t = 52 := by omega
          have hqlo : 4503599627370496 ≤ q := by rw [ht52] at hq1; omega
          have he2 : q * s + y = h * 2 ^ (j + 53) := by have := HE.out; rw [ht52, show j + 1 + 52 = j + 53 by omega] at this; exact this
          have hR := rne_of (h * 2 ^ (j + 53)) s q y (by omega) he2 hys
          have hlo : 4503599627370496 * s ≤ q * s := Nat.mul_le_mul_right _ hqlo
          have hhi : (q + 1) * s ≤ 9007199254740992 * s := Nat.mul_le_mul_right _ (by omega)
          rw [Nat.add_mul, Nat.one_mul] at hhi
          have HM : Hid (hr h m = (1074 - (j + 53)) * 4503599627370496 + rne (h * 2 ^ (j + 53)) s) := by
            show _ = _
            have hmm := hm.out
            rw [hmm] at hlo hhi he2 ⊢
            exact hr_model h m (j + 53) h1 (by rw [← hmm]; exact hs) (by omega) (by omega) (by omega)
          clear he2 hlo hhi hq1 hq2 hpt ht52 HE
          by_cases hc : s ≤ y * 2
          · have d2 : decide ((s : Int) ≤ (y : Int) * 2) = true := decide_eq_true (by omega)
            by_cases hst : y * 2 = s
            · have dS : ((y : Int) * 2 - (s : Int) != 0) = false := by rw [bne_eq_false_iff_eq]; omega
              by_cases hodd : q % 2 = 1
              · have dO : ((q : Int) % 2 == 1) = true := by rw [beq_iff_eq]; omega
                have hRN : rne (h * 2 ^ (j + 53)) s = q + 1 := by rw [hR, if_pos ⟨by omega, .inr hodd⟩]
                clear hR
                by_cases htop : q + 1 = 9007199254740992
                · have dT : ((q : Int) + 1 == 9007199254740992) = true := by rw [beq_iff_eq]; omega
                  obtain ⟨F, hF⟩ : ∃ F, F = 4836865999795912704 + 4503599627370496 := ⟨_, rfl⟩
                  have hfl : floatOfInt .f64 (4503599627370496 : Nat) = F := by rw [floatOfInt_fl, fl_53 _ (by omega) (by omega), hF]
                  have HFL : Hid (floatOfInt .f64 (4503599627370496 : Nat) = F) := hfl
                  have HFIN : Hid (F - (j + 52) * 4503599627370496 = hr h m) := by
                    show _ = _
                    rw [HM.out, hRN, hF]
                    omega
                  have hFb : 4841369599423283200 ≤ F ∧ F < 4845873199050653696 := by omega
                  clear hfl hF hRN
                  go_wp2
                  go_loop [13, 14] (fun f ii => ∃ (i r : Nat), i ≤ j + 52 ∧ r + i * 4503599627370496 = F ∧ f = .float .f64 r ∧ ii = .int .i64 (i : Int)) (fun _ ii => j + 52 - (intOf ii).toNat)
                  case atStart => exact ⟨0, F, by omega, by omega, by first | (rw [← HFL.out]; done) | (rw [← HFL.out]; first | rfl | simp), rfl⟩
                  case round =>
                    obtain ⟨i, r, hik, hr0, rfl, rfl⟩ := hrel
                    clear dT htop
                    have HR0 : Hid (r + i * 4503599627370496 = F) := hr0
                    by_cases hend : i < j + 52
                    · have hdv : ∀ w, (binOp .quo 25 (.float .f64 r) (.float .f64 4611686018427387904)).run Try.prog w = .ok (.float .f64 (r - 4503599627370496)) w :=
                        fun w => run_float_arith w .quo 25 .f64 _ _ _ (div_two r (by omega) (by omega))
                      have hr1 : r - 4503599627370496 + (i + 1) * 4503599627370496 = F := by omega
                      have HR1 : Hid (r - 4503599627370496 + (i + 1) * 4503599627370496 = F) := hr1
                      clear hr0 hr1
                      go_wp2
                      go_round
                      case rel => exact ⟨i + 1, r - 4503599627370496, by omega, HR1.out, rfl, by go_num⟩
                      case measure => simp [intOf]; omega
                    · have hrf : r = hr h m := by rw [← HFIN.out]; omega
                      have HRF : Hid (r = hr h m) := hrf
                      clear hr0 hrf
                      go_wp2
                      go_ret
                      exact ⟨ret_float HRF.out, rfl⟩
                · have dT : ((q : Int) + 1 == 9007199254740992) = false := by rw [beq_eq_false_iff_ne]; omega
                  obtain ⟨F, hF⟩ : ∃ F, F = 4836865999795912704 + (q + 1) := ⟨_, rfl⟩
                  have hfl : floatOfInt .f64 ((q + 1) : Nat) = F := by rw [floatOfInt_fl, fl_53 _ (by omega) (by omega), hF]
                  have HFL : Hid (floatOfInt .f64 ((q + 1) : Nat) = F) := hfl
                  have HFIN : Hid (F - (j + 53) * 4503599627370496 = hr h m) := by
                    show _ = _
                    rw [HM.out, hRN, hF]
                    omega
                  have hFb : 4841369599423283200 ≤ F ∧ F < 4845873199050653696 := by omega
                  clear hfl hF hRN
                  go_wp2
                  go_loop [13, 14] (fun f ii => ∃ (i r : Nat), i ≤ j + 53 ∧ r + i * 4503599627370496 = F ∧ f = .float .f64 r ∧ ii = .int .i64 (i : Int)) (fun _ ii => j + 53 - (intOf ii).toNat)
                  case atStart => exact ⟨0, F, by omega, by omega, by first | (rw [← HFL.out]; done) | (rw [← HFL.out]; first | rfl | simp), rfl⟩
                  case round =>
                    obtain ⟨i, r, hik, hr0, rfl, rfl⟩ := hrel
                    clear dT htop
                    have HR0 : Hid (r + i * 4503599627370496 = F) := hr0
                    by_cases hend : i < j + 53
                    · have hdv : ∀ w, (binOp .quo 25 (.float .f64 r) (.float .f64 4611686018427387904)).run Try.prog w = .ok (.float .f64 (r - 4503599627370496)) w :=
                        fun w => run_float_arith w .quo 25 .f64 _ _ _ (div_two r (by omega) (by omega))
                      have hr1 : r - 4503599627370496 + (i + 1) * 4503599627370496 = F := by omega
                      have HR1 : Hid (r - 4503599627370496 + (i + 1) * 4503599627370496 = F) := hr1
                      clear hr0 hr1
                      go_wp2
                      go_round
                      case rel => exact ⟨i + 1, r - 4503599627370496, by omega, HR1.out, rfl, by go_num⟩
                      case measure => simp [intOf]; omega
                    · have hrf : r = hr h m := by rw [← HFIN.out]; omega
                      have HRF : Hid (r = hr h m) := hrf
                      clear hr0 hrf
                      go_wp2
                      go_ret
                      exact ⟨ret_float HRF.out, rfl⟩
              · have dO : ((q : Int) % 2 == 1) = false := by rw [beq_eq_false_iff_ne]; omega
                have hRN : rne (h * 2 ^ (j + 53)) s = q := by rw [hR, if_neg (fun c => by rcases c with ⟨_, c | c⟩ <;> omega)]
                clear hR
                obtain ⟨F, hF⟩ : ∃ F, F = 4836865999795912704 + q := ⟨_, rfl⟩
                have hfl : floatOfInt .f64 (q : Nat) = F := by rw [floatOfInt_fl, fl_53 _ (by omega) (by omega), hF]
                have HFL : Hid (floatOfInt .f64 (q : Nat) = F) := hfl
                have HFIN : Hid (F - (j + 53) * 4503599627370496 = hr h m) := by
                  show _ = _
                  rw [HM.out, hRN, hF]
                  omega
                have hFb : 4841369599423283200 ≤ F ∧ F < 4845873199050653696 := by omega
                clear hfl hF hRN
                go_wp2
                go_loop [13, 14] (fun f ii => ∃ (i r : Nat), i ≤ j + 53 ∧ r + i * 4503599627370496 = F ∧ f = .float .f64 r ∧ ii = .int .i64 (i : Int)) (fun _ ii => j + 53 - (intOf ii).toNat)
                case atStart => exact ⟨0, F, by omega, by omega, by first | (rw [← HFL.out]; done) | (rw [← HFL.out]; first | rfl | simp), rfl⟩
                case round =>
                  obtain ⟨i, r, hik, hr0, rfl, rfl⟩ := hrel
                  have HR0 : Hid (r + i * 4503599627370496 = F) := hr0
                  by_cases hend : i < j + 53
                  · have hdv : ∀ w, (binOp .quo 25 (.float .f64 r) (.float .f64 4611686018427387904)).run Try.prog w = .ok (.float .f64 (r - 4503599627370496)) w :=
                      fun w => run_float_arith w .quo 25 .f64 _ _ _ (div_two r (by omega) (by omega))
                    have hr1 : r - 4503599627370496 + (i + 1) * 4503599627370496 = F := by omega
                    have HR1 : Hid (r - 4503599627370496 + (i + 1) * 4503599627370496 = F) := hr1
                    clear hr0 hr1
                    go_wp2
                    go_round
                    case rel => exact ⟨i + 1, r - 4503599627370496, by omega, HR1.out, rfl, by go_num⟩
                    case measure => simp [intOf]; omega
                  · have hrf : r = hr h m := by rw [← HFIN.out]; omega
                    have HRF : Hid (r = hr h m) := hrf
                    clear hr0 hrf
                    go_wp2
                    go_ret
                    exact ⟨ret_float HRF.out, rfl⟩
            · have dS : ((y : Int) * 2 - (s : Int) != 0) = true := by rw [bne_iff_ne]; omega
              have hRN : rne (h * 2 ^ (j + 53)) s = q + 1 := by rw [hR, if_pos ⟨by omega, .inl (by omega)⟩]
              clear hR
              by_cases htop : q + 1 = 9007199254740992
              · have dT : ((q : Int) + 1 == 9007199254740992) = true := by rw [beq_iff_eq]; omega
                obtain ⟨F, hF⟩ : ∃ F, F = 4836865999795912704 + 4503599627370496 := ⟨_, rfl⟩
                have hfl : floatOfInt .f64 (4503599627370496 : Nat) = F := by rw [floatOfInt_fl, fl_53 _ (by omega) (by omega), hF]
                have HFL : Hid (floatOfInt .f64 (4503599627370496 : Nat) = F) := hfl
                have HFIN : Hid (F - (j + 52) * 4503599627370496 = hr h m) := by
                  show _ = _
                  rw [HM.out, hRN, hF]
                  omega
                have hFb : 4841369599423283200 ≤ F ∧ F < 4845873199050653696 := by omega
                clear hfl hF hRN
                go_wp2
                go_loop [13, 14] (fun f ii => ∃ (i r : Nat), i ≤ j + 52 ∧ r + i * 4503599627370496 = F ∧ f = .float .f64 r ∧ ii = .int .i64 (i : Int)) (fun _ ii => j + 52 - (intOf ii).toNat)
                case atStart => exact ⟨0, F, by omega, by omega, by first | (rw [← HFL.out]; done) | (rw [← HFL.out]; first | rfl | simp), rfl⟩
                case round =>
                  obtain ⟨i, r, hik, hr0, rfl, rfl⟩ := hrel
                  clear dT htop dS hst d2 hc
                  have HR0 : Hid (r + i * 4503599627370496 = F) := hr0
                  by_cases hend : i < j + 52
                  · have hdv : ∀ w, (binOp .quo 25 (.float .f64 r) (.float .f64 4611686018427387904)).run Try.prog w = .ok (.float .f64 (r - 4503599627370496)) w :=
                      fun w => run_float_arith w .quo 25 .f64 _ _ _ (div_two r (by omega) (by omega))
                    have hr1 : r - 4503599627370496 + (i + 1) * 4503599627370496 = F := by omega
                    have HR1 : Hid (r - 4503599627370496 + (i + 1) * 4503599627370496 = F) := hr1
                    clear hr0 hr1
                    go_wp2
                    go_round
                    case rel => exact ⟨i + 1, r - 4503599627370496, by omega, HR1.out, rfl, by go_num⟩
                    case measure => simp [intOf]; omega
                  · have hrf : r = hr h m := by rw [← HFIN.out]; omega
                    have HRF : Hid (r = hr h m) := hrf
                    clear hr0 hrf
                    go_wp2
                    go_ret
                    exact ⟨ret_float HRF.out, rfl⟩
              · have dT : ((q : Int) + 1 == 9007199254740992) = false := by rw [beq_eq_false_iff_ne]; omega
                obtain ⟨F, hF⟩ : ∃ F, F = 4836865999795912704 + (q + 1) := ⟨_, rfl⟩
                have hfl : floatOfInt .f64 ((q + 1) : Nat) = F := by rw [floatOfInt_fl, fl_53 _ (by omega) (by omega), hF]
                have HFL : Hid (floatOfInt .f64 ((q + 1) : Nat) = F) := hfl
                have HFIN : Hid (F - (j + 53) * 4503599627370496 = hr h m) := by
                  show _ = _
                  rw [HM.out, hRN, hF]
                  omega
                have hFb : 4841369599423283200 ≤ F ∧ F < 4845873199050653696 := by omega
                clear hfl hF hRN
                go_wp2
                go_loop [13, 14] (fun f ii => ∃ (i r : Nat), i ≤ j + 53 ∧ r + i * 4503599627370496 = F ∧ f = .float .f64 r ∧ ii = .int .i64 (i : Int)) (fun _ ii => j + 53 - (intOf ii).toNat)
                case atStart => exact ⟨0, F, by omega, by omega, by first | (rw [← HFL.out]; done) | (rw [← HFL.out]; first | rfl | simp), rfl⟩
                case round =>
                  obtain ⟨i, r, hik, hr0, rfl, rfl⟩ := hrel
                  clear dT htop dS hst d2 hc
                  have HR0 : Hid (r + i * 4503599627370496 = F) := hr0
                  by_cases hend : i < j + 53
                  · have hdv : ∀ w, (binOp .quo 25 (.float .f64 r) (.float .f64 4611686018427387904)).run Try.prog w = .ok (.float .f64 (r - 4503599627370496)) w :=
                      fun w => run_float_arith w .quo 25 .f64 _ _ _ (div_two r (by omega) (by omega))
                    have hr1 : r - 4503599627370496 + (i + 1) * 4503599627370496 = F := by omega
                    have HR1 : Hid (r - 4503599627370496 + (i + 1) * 4503599627370496 = F) := hr1
                    clear hr0 hr1
                    go_wp2
                    go_round
                    case rel => exact ⟨i + 1, r - 4503599627370496, by omega, HR1.out, rfl, by go_num⟩
                    case measure => simp [intOf]; omega
                  · have hrf : r = hr h m := by rw [← HFIN.out]; omega
                    have HRF : Hid (r = hr h m) := hrf
                    clear hr0 hrf
                    go_wp2
                    go_ret
                    exact ⟨ret_float HRF.out, rfl⟩
          · have d2 : decide ((s : Int) ≤ (y : Int) * 2) = false := decide_eq_false (by omega)
            have hRN : rne (h * 2 ^ (j + 53)) s = q := by rw [hR, if_neg (fun c => by omega)]
            clear hR
            obtain ⟨F, hF⟩ : ∃ F, F = 4836865999795912704 + q := ⟨_, rfl⟩
            have hfl : floatOfInt .f64 (q : Nat) = F := by rw [floatOfInt_fl, fl_53 _ (by omega) (by omega), hF]
            have HFL : Hid (floatOfInt .f64 (q : Nat) = F) := hfl
            have HFIN : Hid (F - (j + 53) * 4503599627370496 = hr h m) := by
              show _ = _
              rw [HM.out, hRN, hF]
              omega
            have hFb : 4841369599423283200 ≤ F ∧ F < 4845873199050653696 := by omega
            clear hfl hF hRN
            go_wp2
            go_loop [13, 14] (fun f ii => ∃ (i r : Nat), i ≤ j + 53 ∧ r + i * 4503599627370496 = F ∧ f = .float .f64 r ∧ ii = .int .i64 (i : Int)) (fun _ ii => j + 53 - (intOf ii).toNat)
            case atStart => exact ⟨0, F, by omega, by omega, by first | (rw [← HFL.out]; done) | (rw [← HFL.out]; first | rfl | simp), rfl⟩
            case round =>
              obtain ⟨i, r, hik, hr0, rfl, rfl⟩ := hrel
              have HR0 : Hid (r + i * 4503599627370496 = F) := hr0
              by_cases hend : i < j + 53
              · have hdv : ∀ w, (binOp .quo 25 (.float .f64 r) (.float .f64 4611686018427387904)).run Try.prog w = .ok (.float .f64 (r - 4503599627370496)) w :=
                  fun w => run_float_arith w .quo 25 .f64 _ _ _ (div_two r (by omega) (by omega))
                have hr1 : r - 4503599627370496 + (i + 1) * 4503599627370496 = F := by omega
                have HR1 : Hid (r - 4503599627370496 + (i + 1) * 4503599627370496 = F) := hr1
                clear hr0 hr1
                go_wp2
                go_round
                case rel => exact ⟨i + 1, r - 4503599627370496, by omega, HR1.out, rfl, by go_num⟩
                case measure => simp [intOf]; omega
              · have hrf : r = hr h m := by rw [← HFIN.out]; omega
                have HRF : Hid (r = hr h m) := hrf
                clear hr0 hrf
                go_wp2
                go_ret
                exact ⟨ret_float HRF.out, rfl⟩
    · have d1 : decide ((s : Int) ≤ (x : Int) * 2) = false := decide_eq_false (by omega)
      go_wp2
      go_round
      case rel => exact ⟨j + 1, x * 2, by rw [HX.out, Nat.pow_succ, Nat.mul_assoc], by omega, by go_num, by go_num, by go_num⟩
      case measure => simp [intOf]; omega
end Go.Proofs.Qxb6002901a
