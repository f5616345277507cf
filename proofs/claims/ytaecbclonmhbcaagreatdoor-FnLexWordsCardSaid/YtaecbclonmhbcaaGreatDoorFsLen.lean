/- findStringLen. -/
import Derived.Test.YtaecbclonmhbcaaGreatDoorIdx
namespace Go.Proofs.YtaecbclonmhbcaaGreatDoor
open Go.RowKit

theorem strLen_fuel : ∀ (f g : Nat) (data : List Int) (len : Nat), data.length < f → data.length < g → strLen f data len = strLen g data len
  | 0, _, _, _, h, _ => absurd h (Nat.not_lt_zero _)
  | _ + 1, 0, _, _, _, h => absurd h (Nat.not_lt_zero _)
  | f + 1, g + 1, data, len, hf, hg => by
    simp only [strLen]
    cases h : idxOf 34 data with
    | none => rfl
    | some i =>
      have hi := (idxOf_lt h).1
      simp only
      split
      · rfl
      · exact strLen_fuel f g _ _ (by simp; omega) (by simp; omega)

def StrRel (xs : List Int) (k : Nat) : Prop := strLen (xs.length + 1) xs 0 = strLen (xs.length - k + 1) (xs.drop k) k
theorem StrRel.start (xs : List Int) : StrRel xs 0 := rfl
theorem StrRel.none {xs : List Int} {k : Nat} (h : StrRel xs k) (hi : idxOf 34 (xs.drop k) = none) : strLen (xs.length + 1) xs 0 = (false, xs.length - k) := by
  rw [h]; simp [strLen, hi]
theorem StrRel.yes {xs : List Int} {k i : Nat} (h : StrRel xs k) (hi : idxOf 34 (xs.drop k) = some i) (hs : slashes ((xs.drop k).take i) % 2 = 0) : strLen (xs.length + 1) xs 0 = (true, k + i) := by
  rw [h]; simp [strLen, hi, hs]
theorem StrRel.no {xs : List Int} {k i : Nat} (h : StrRel xs k) (hi : idxOf 34 (xs.drop k) = some i) (hs : slashes ((xs.drop k).take i) % 2 = 1) : StrRel xs (k + (i + 1)) := by
  have hl := (idxOf_lt hi).1
  simp at hl
  unfold StrRel
  rw [h, strLen, hi]
  simp only [hs]
  rw [if_neg (by decide), List.drop_drop]
  rw [show k + i + 1 = k + (i + 1) from by omega]
  exact strLen_fuel _ _ _ _ (by simp <;> omega) (by simp <;> omega)

theorem slashes_none {xs : List Int} {i : Nat} (hi : i ≤ xs.length) (h : i = 0 ∨ xs.getD (i - 1) 0 ≠ 92) : slashes (xs.take i) % 2 = 0 := by
  rcases h with rfl | h
  · simp [slashes]
  · rcases Nat.eq_zero_or_pos i with rfl | h0
    · simp [slashes]
    · have := (Seen.start xs i).stop hi h0 (by simpa using h)
      rw [this]

set_option maxHeartbeats 4000000 in
set_option maxRecDepth 100000 in
theorem findStringLen_at (b o n cap : Nat) (xs : List Int) (w : World) (hx : xs.length = n) (hn : n ≤ 1073741824) (hB : Bytes xs)
    (hc : ∀ i, i < n → w.cell? ⟨b, o + i, none⟩ = some (.int .u8 (xs.getD i 0))) (hcap : n ≤ cap) :
    Calls Tryz.prog 144 #[.slice (some ⟨b, o, none⟩) n cap] w fun e w' => e = .returned (.tuple #[.bool (strLen (n + 1) xs 0).1, .int .i64 (strLen (n + 1) xs 0).2]) ∧ w = w' := by
  have HX := Lib.hid hx
  have HC := Lib.hid hc
  have HB := Lib.hid hB
  clear hx hc hB
  go_enter Tryz.func144, Tryz.ntmps144
  go_wp2
  go_loop [0, 3] (fun v l => ∃ (k o' c' : Nat), k ≤ n ∧ v = .slice (some ⟨b, o', none⟩) (n - k) c' ∧ n - k ≤ c' ∧ (n = k ∨ o' = o + k) ∧ l = .int .i64 k ∧ StrRel xs k)
    (fun _ l => n - (intOf l).toNat)
  case atStart => exact ⟨0, o, cap, Nat.zero_le _, rfl, hcap, .inr rfl, rfl, StrRel.start _⟩
  case round =>
    obtain ⟨k, o', c', hkn, rfl, hkc, ho, rfl, hrel⟩ := hrel
    have HR := Lib.hid hrel
    have HO := Lib.hid ho
    clear hrel ho
    have hcells : RowKit.Hid (∀ i, i < n - k → w.cell? ⟨b, o' + i, none⟩ = some (.int .u8 ((xs.drop k).getD i 0))) := fun i hi => by
      rcases HO.out with h | h
      · omega
      · rw [h, getD_drop, ← HC.out (k + i) (by omega)]; simp [Nat.add_assoc]
    have hlen : RowKit.Hid ((xs.drop k).length = n - k) := by show _ = _; rw [List.length_drop, HX.out]
    have HI : RowKit.Hid (∀ w' : World, w' = w → Calls Tryz.prog 132 #[.slice (some ⟨b, o', none⟩) (n - k) c', .int .u8 34] w' fun e w'' => e = .returned (.int .i64 (idxI 34 (xs.drop k))) ∧ w' = w'') :=
      fun w' hw' => by subst hw'; exact indexByte_at b o' (n - k) c' (xs.drop k) 34 w' hlen.out (HB.out.drop k) (by omega) hcells.out
    cases hi : idxOf 34 (xs.drop k) with
    | none =>
      have e1 : idxI 34 (xs.drop k) = -1 := by simp [idxI, hi]
      have HF := Lib.hid (HR.out.none hi)
      clear hi
      have hk1 : n - k ≤ n := by omega
      go_wp2_with (go_at_call 132; refine (HI.out _ rfl).mono ?_; rintro e w' ⟨rfl, rfl⟩)
      go_ret2
      have hf := HF.out
      rw [HX.out] at hf
      rw [hf]
      exact ⟨rfl, rfl⟩
    | some i =>
      have e1 : idxI 34 (xs.drop k) = (i : Int) := by simp [idxI, hi]
      have hil := (idxOf_lt hi).1
      rw [hlen.out] at hil
      have HQ := Lib.hid hi
      clear hi
      rcases Nat.eq_zero_or_pos i with h0 | h0
      · subst h0
        have e1' : idxI 34 (xs.drop k) = 0 := e1
        have HF := Lib.hid (HR.out.yes HQ.out (slashes_none (by omega) (.inl rfl)))
        clear e1
        go_wp2_with (go_at_call 132; refine (HI.out _ rfl).mono ?_; rintro e w' ⟨rfl, rfl⟩)
        go_ret2
        have hf := HF.out
        rw [HX.out] at hf
        rw [hf]
        exact ⟨rfl, rfl⟩
      · have g1 : ((i : Int) == -1) = false := beq_eq_false_iff_ne.2 (by omega)
        have g2 : ((i : Int) == 0) = false := beq_eq_false_iff_ne.2 (by omega)
        have g3 : decide ((0 : Int) < (i : Int)) = true := decide_eq_true (by omega)
        have hu := hcells.out (i - 1) (by omega)
        generalize hcc : (xs.drop k).getD (i - 1) 0 = c at hu
        by_cases h92 : c = 92
        case neg =>
          have HF := Lib.hid (HR.out.yes HQ.out (slashes_none (by rw [hlen.out]; omega) (.inr (by rw [hcc]; exact h92))))
          have m1 : (c == 92) = false := by simp [h92]
          have m2 : (c != 92) = true := by simp [h92]
          clear hcc h92
          go_wp2_with (go_at_call 132; refine (HI.out _ rfl).mono ?_; rintro e w' ⟨rfl, rfl⟩)
          go_ret2
          have hf := HF.out
          rw [HX.out] at hf
          rw [hf]
          exact ⟨rfl, rfl⟩
        case pos =>
          subst h92
          have HS1 := Lib.hid ((Seen.start (xs.drop k) i).next (by rw [hlen.out]; omega) h0 (by simpa using hcc))
          clear hcc
          go_wp2_with (go_at_call 132; refine (HI.out _ rfl).mono ?_; rintro e w' ⟨rfl, rfl⟩)
          go_loop [5] (fun c => ∃ j : Nat, c = .int .i64 j ∧ 1 ≤ j ∧ j ≤ i ∧ Seen (xs.drop k) i j) (fun c => i - (intOf c).toNat)
          case atStart => exact ⟨1, rfl, Nat.le_refl _, h0, HS1.out⟩
          case round =>
            obtain ⟨j, rfl, hj1, hji, hseen⟩ := hrel
            have HSE := Lib.hid hseen
            clear hseen hu
            by_cases hlt : j < i
            case neg =>
              obtain rfl : j = i := by omega
              have HSL := Lib.hid HSE.out.all
              rcases Nat.mod_two_eq_zero_or_one j with hpar | hpar
              · have HF := Lib.hid (HR.out.yes HQ.out (by rw [HSL.out]; exact hpar))
                have hpb : ((j : Int) % 2 == 0) = true := by simp; omega
                clear hpar
                go_wp2
                go_ret2
                have hf := HF.out
                rw [HX.out] at hf
                rw [hf]
                exact ⟨rfl, rfl⟩
              · have HF := Lib.hid (HR.out.no HQ.out (by rw [HSL.out]; exact hpar))
                have hpb : ((j : Int) % 2 == 0) = false := by simp; omega
                clear hpar
                by_cases hci : c' = j + 1
                · have HCI := Lib.hid hci
                  have hci1 : c' ≤ j + 1 := by omega
                  have hci2 : j + 1 ≤ c' := by omega
                  clear hci
                  go_wp2
                  go_round
                  case rel => exact ⟨k + (j + 1), _, _, by omega, by rw [show n - (k + (j + 1)) = n - k - (j + 1) from by omega], by omega, .inl (by omega), by go_num, HF.out⟩
                  case measure => simp [intOf]; omega
                · go_wp2
                  go_round
                  case rel => exact ⟨k + (j + 1), _, _, by omega, by rw [show n - (k + (j + 1)) = n - k - (j + 1) from by omega], by omega, (HO.out.elim (fun h => .inl (by omega)) (fun h => .inr (by omega))), by go_num, HF.out⟩
                  case measure => simp [intOf]; omega
            case pos =>
              have hv := hcells.out (i - j - 1) (by omega)
              generalize hcc : (xs.drop k).getD (i - j - 1) 0 = c at hv
              have tn : ((i : Int) - j - 1).toNat = i - j - 1 := by omega
              by_cases h92 : c = 92
              case pos =>
                subst h92
                have HS2 := Lib.hid (HSE.out.next (by rw [hlen.out]; omega) hlt (by simpa using hcc))
                clear hcc
                go_wp2
                go_round
                case rel => exact ⟨j + 1, by go_num, by omega, by omega, HS2.out⟩
                case measure => simp [intOf]; omega
              case neg =>
                have HSL := Lib.hid (HSE.out.stop (by rw [hlen.out]; omega) hlt (by rw [hcc]; exact h92))
                have m1 : (c == 92) = false := by simp [h92]
                clear hcc h92
                rcases Nat.mod_two_eq_zero_or_one j with hpar | hpar
                · have HF := Lib.hid (HR.out.yes HQ.out (by rw [HSL.out]; exact hpar))
                  have hpb : ((j : Int) % 2 == 0) = true := by simp; omega
                  clear hpar
                  go_wp2
                  go_ret2
                  have hf := HF.out
                  rw [HX.out] at hf
                  rw [hf]
                  exact ⟨rfl, rfl⟩
                · have HF := Lib.hid (HR.out.no HQ.out (by rw [HSL.out]; exact hpar))
                  have hpb : ((j : Int) % 2 == 0) = false := by simp; omega
                  clear hpar
                  by_cases hci : c' = i + 1
                  · have HCI := Lib.hid hci
                    have hci1 : c' ≤ i + 1 := by omega
                    have hci2 : i + 1 ≤ c' := by omega
                    clear hci
                    go_wp2
                    go_round
                    case rel => exact ⟨k + (i + 1), _, _, by omega, by rw [show n - (k + (i + 1)) = n - k - (i + 1) from by omega], by omega, .inl (by omega), by go_num, HF.out⟩
                    case measure => simp [intOf]; omega
                  · go_wp2
                    go_round
                    case rel => exact ⟨k + (i + 1), _, _, by omega, by rw [show n - (k + (i + 1)) = n - k - (i + 1) from by omega], by omega, (HO.out.elim (fun h => .inl (by omega)) (fun h => .inr (by omega))), by go_num, HF.out⟩
                    case measure => simp [intOf]; omega
end Go.Proofs.YtaecbclonmhbcaaGreatDoor
