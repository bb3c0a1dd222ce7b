import Derived.Test.Qxb6600264aAt
import Derived.Deep.DeepCutAuto
namespace Go.Proofs.Qxb6600264a
open Go.ChangeShapes Go.WideShapes Go.ChangeAt Go.RowKit

theorem at_yes {p g n : Nat} {ao : Option Addr} {cp : Nat} {z : Nat → Int} {k : Nat} {w : World} {c : Int} (h : St p g n ao cp z k w) (hc : atB z n k c = true) :
    Calls Try.prog 17 #[.pointer (some ⟨p, 0, none⟩), .int .u8 c] w fun e w' => e = .returned (.bool true) ∧ St p g n ao cp z k w' ∧ Below p w w' := by
  rw [← hc]; exact at_walk h c
theorem at_no {p g n : Nat} {ao : Option Addr} {cp : Nat} {z : Nat → Int} {k : Nat} {w : World} {c : Int} (h : St p g n ao cp z k w) (hc : atB z n k c = false) :
    Calls Try.prog 17 #[.pointer (some ⟨p, 0, none⟩), .int .u8 c] w fun e w' => e = .returned (.bool false) ∧ St p g n ao cp z k w' ∧ Below p w w' := by
  rw [← hc]; exact at_walk h c
theorem digits_yes {p g n : Nat} {ao : Option Addr} {cp : Nat} {z : Nat → Int} {k : Nat} {w : World} (h : St p g n ao cp z k w) (hd : D z n k ≠ 0) :
    Calls Try.prog 18 #[.pointer (some ⟨p, 0, none⟩)] w fun e w' => e = .returned (.bool true) ∧ St p g n ao cp z (k + D z n k) w' ∧ Below p w w' := by
  have := digits_walk h
  rw [decide_eq_true hd] at this
  exact this
theorem digits_no {p g n : Nat} {ao : Option Addr} {cp : Nat} {z : Nat → Int} {k : Nat} {w : World} (h : St p g n ao cp z k w) (hd : D z n k = 0) :
    Calls Try.prog 18 #[.pointer (some ⟨p, 0, none⟩)] w fun e w' => e = .returned (.bool false) ∧ St p g n ao cp z k w' ∧ Below p w w' := by
  have := digits_walk h
  rw [decide_eq_false (by omega), hd, Nat.add_zero] at this
  exact this
theorem St.inc {p g n : Nat} {ao : Option Addr} {cp : Nat} {z : Nat → Int} {k : Nat} {w : World} (h : St p g n ao cp z k w) (hk : k < n) : St p g n ao cp z (k + 1) (w.setCell ⟨p, 1, none⟩ (.int .i64 ((k : Int) + 1))) := h.put (k + 1) (by omega)
theorem bool_false {b : Bool} (h : ¬ b = true) : b = false := by simpa using h

/-- A way out: the machine stands there too. -/
theorem number_end {p g n : Nat} {ao : Option Addr} {cp : Nat} {z : Nat → Int} {k j : Nat} {s : Int} {w w' : World} {R0 : Int × Nat} {b : Bool} (h0 : R z n s j = R0) (h1 : R z n s j = (s, k)) (ha : accF s = b) (hs : St p g n ao cp z k w') (hb : Below p w w') :
    Ending.returned (.bool b) = .returned (.bool (accF R0.1)) ∧ St p g n ao cp z R0.2 w' ∧ Below p w w' := by
  rw [← h0, h1]
  exact ⟨ret_bool ha.symm, hs, hb⟩

theorem number_end8 {p g n : Nat} {ao : Option Addr} {cp : Nat} {z : Nat → Int} {k j : Nat} {s : Int} {w w' : World} {R0 : Int × Nat} (h0 : R z n s j = R0) (h1 : R z n s j = (8, k)) (hs : St p g n ao cp z k w') (hb : Below p w w') :
    Ending.returned (.bool true) = .returned (.bool (accF R0.1)) ∧ St p g n ao cp z R0.2 w' ∧ Below p w w' := by
  rw [← h0, h1]
  exact ⟨rfl, hs, hb⟩

set_option maxHeartbeats 4000000 in
theorem number_walk {p g n : Nat} {ao : Option Addr} {cp : Nat} {z : Nat → Int} {k : Nat} {w : World} (h : St p g n ao cp z k w) :
    Calls Try.prog 13 #[.pointer (some ⟨p, 0, none⟩)] w fun e w' => e = .returned (.bool (accF (R z n 0 k).1)) ∧ St p g n ao cp z (R z n 0 k).2 w' ∧ Below p w w' := by
  generalize hR : R z n 0 k = R0
  have HR : Hid (R z n 0 k = R0) := hR
  have H : Hid _ := h
  have nm := h.nm
  clear h hR
  go_enter Try.func13, Try.ntmps13
  -- the sign
  go_upto_if 4 with (go_at_call 17; refine (at_walk H.out 45).mono ?_; rintro e w1 ⟨rfl, hst, hb⟩)
  have S1 : Hid _ := hst
  have B1 : Hid _ := hb
  clear hst hb
  go_cut [] (fun wc => ∃ (k1 : Nat) (s1 : Int), Aside (R z n s1 k1 = R0 ∧ Sg z n s1 k1 ∧ St p g n ao cp z k1 wc ∧ Below p w wc))
  case first =>
    by_cases hm : atB z n k 45 = true
    · have hk := (atB_true hm).1
      have c1 := S1.out.c1
      have f1 := S1.out.f1
      simp only [hm]
      have HM : Hid _ := hm
      clear hm
      go_wp2
      go_meet
      case rel => exact ⟨k + 1, 1, by rw [← sg1 HM.out]; exact HR.out, .inl rfl, S1.out.inc hk, B1.out.setCell (Nat.le_refl _) _⟩
    · have hm' := bool_false hm
      simp only [hm']
      have HM : Hid _ := hm'
      clear hm hm'
      go_wp2
      go_meet
      case rel => exact ⟨k, 0, HR.out, .inr ⟨rfl, HM.out⟩, S1.out, B1.out⟩
  case rest =>
    clear H HR S1 B1
    obtain ⟨k1, s1, A⟩ := hcut
    -- the integer part
    go_upto_if 13 with (go_at_call 17; refine (at_walk A.out.2.2.1 48).mono ?_; rintro e w2 ⟨rfl, hst, hb⟩)
    have S1 : Hid _ := hst
    have B1 : Hid _ := A.out.2.2.2.trans hb
    have E1 : Hid _ := A.out.1
    have G1 : Hid _ := A.out.2.1
    clear hst hb A
    go_cut [] (fun wd => ∃ (k2 : Nat) (s2 : Int), Aside (R z n s2 k2 = R0 ∧ In z n s2 k2 ∧ St p g n ao cp z k2 wd ∧ Below p w wd))
    case first =>
      by_cases hm : atB z n k1 48 = true
      · have hk := (atB_true hm).1
        have c1 := S1.out.c1
        have f1 := S1.out.f1
        simp only [hm]
        have HM : Hid _ := hm
        clear hm
        go_wp2
        go_meet
        case rel => exact ⟨k1 + 1, 2, by rw [← in_zero G1.out HM.out]; exact E1.out, .inl rfl, S1.out.inc hk, B1.out.setCell (Nat.le_refl _) _⟩
      · have hm' := bool_false hm
        simp only [hm']
        have HM : Hid _ := hm'
        clear hm hm'
        by_cases hd : D z n k1 = 0
        · have HD : Hid _ := hd
          clear hd
          go_wp2_with (go_at_call 18; refine (digits_no S1.out HD.out).mono ?_; rintro e w3 ⟨rfl, hst, hb⟩; have S2 : Hid _ := hst; have B2 : Hid _ := hb; clear hst hb)
          go_ret
          exact number_end E1.out (in_none G1.out HM.out HD.out).1 (in_none G1.out HM.out HD.out).2 S2.out (B1.out.trans B2.out)
        · have HD : Hid _ := hd
          clear hd
          go_wp2_with (go_at_call 18; refine (digits_yes S1.out HD.out).mono ?_; rintro e w3 ⟨rfl, hst, hb⟩; have S2 : Hid _ := hst; have B2 : Hid _ := hb; clear hst hb)
          go_meet
          case rel => exact ⟨_, 3, by rw [← in_digits G1.out HM.out HD.out]; exact E1.out, .inr ⟨rfl, D_end z n _ k1 rfl⟩, S2.out, B1.out.trans B2.out⟩
    case rest =>
      clear S1 B1 E1 G1
      obtain ⟨k2, s2, A⟩ := hcut
      -- the fraction
      go_upto_if 25 with (go_at_call 17; refine (at_walk A.out.2.2.1 46).mono ?_; rintro e w4 ⟨rfl, hst, hb⟩)
      have S1 : Hid _ := hst
      have B1 : Hid _ := A.out.2.2.2.trans hb
      have E1 : Hid _ := A.out.1
      have G1 : Hid _ := A.out.2.1
      clear hst hb A
      go_cut [] (fun we => ∃ (k3 : Nat) (s3 : Int), Aside (R z n s3 k3 = R0 ∧ Fr z n s3 k3 ∧ St p g n ao cp z k3 we ∧ Below p w we))
      case first =>
        by_cases hm : atB z n k2 46 = true
        · have hk := (atB_true hm).1
          have c1 := S1.out.c1
          have f1 := S1.out.f1
          simp only [hm]
          have HM : Hid _ := hm
          have S2 : Hid _ := S1.out.inc hk
          have E2 : Hid (R z n 4 (k2 + 1) = R0) := by rw [← fr_dot G1.out hm]; exact E1.out
          clear hm
          by_cases hd : D z n (k2 + 1) = 0
          · have HD : Hid _ := hd
            clear hd
            go_wp2_with (go_at_call 18; refine (digits_no S2.out HD.out).mono ?_; rintro e w5 ⟨rfl, hst, hb⟩; have S3 : Hid _ := hst; have B2 : Hid _ := hb; clear hst hb)
            go_ret
            exact number_end E2.out (fr_none HD.out) rfl S3.out ((B1.out.setCell (Nat.le_refl _) _).trans B2.out)
          · have HD : Hid _ := hd
            clear hd
            go_wp2_with (go_at_call 18; refine (digits_yes S2.out HD.out).mono ?_; rintro e w5 ⟨rfl, hst, hb⟩; have S3 : Hid _ := hst; have B2 : Hid _ := hb; clear hst hb)
            go_meet
            case rel => exact ⟨_, 5, by rw [← fr_digits HD.out]; exact E2.out, .inr (.inr ⟨rfl, D_end z n _ (k2 + 1) rfl⟩), S3.out, (B1.out.setCell (Nat.le_refl _) _).trans B2.out⟩
        · have hm' := bool_false hm
          simp only [hm']
          have HM : Hid _ := hm'
          clear hm hm'
          go_wp2
          go_meet
          case rel => exact ⟨k2, s2, E1.out, by rcases G1.out with h | ⟨h, h'⟩; exact .inl ⟨h, HM.out⟩; exact .inr (.inl ⟨h, HM.out, h'⟩), S1.out, B1.out⟩
      case rest =>
        clear S1 B1 E1 G1
        obtain ⟨k3, s3, A⟩ := hcut
        -- the exponent
        have S1 : Hid _ := A.out.2.2.1
        have B1 : Hid _ := A.out.2.2.2
        have E1 : Hid _ := A.out.1
        have G1 : Hid _ := A.out.2.1
        clear A
        go_upto_region 11 with fail
        go_cut [41] (fun s41 wf => ∃ b : Bool, s41 = .bool b ∧ Aside ((b = true → R z n 6 (k3 + 1) = R0 ∧ k3 < n) ∧ (b = false → R z n s3 k3 = (s3, k3) ∧ accF s3 = true) ∧ St p g n ao cp z k3 wf ∧ Below p w wf))
        case first =>
          by_cases he : atB z n k3 101 = true
          · have HE : Hid _ := he
            clear he
            go_wp2_with fail
            refine (at_yes S1.out HE.out).mono ?_
            rintro e w6 ⟨rfl, hst, hb⟩
            have S2 : Hid _ := hst
            have B2 : Hid _ := hb
            clear hst hb
            go_wp2
            go_meet
            case rel => exact ⟨true, rfl, fun _ => ⟨by rw [← ex_e G1.out (.inl HE.out)]; exact E1.out, (atB_true HE.out).1⟩, fun h => (by cases h), S2.out, B1.out.trans B2.out⟩
          · have HE : Hid _ := bool_false he
            clear he
            by_cases hf : atB z n k3 69 = true
            · have HF : Hid _ := hf
              clear hf
              go_wp2_with fail
              refine (at_no S1.out HE.out).mono ?_
              rintro e w6 ⟨rfl, hst, hb⟩
              have S2 : Hid _ := hst
              have B2 : Hid _ := hb
              clear hst hb
              go_wp2_with fail
              refine (at_yes S2.out HF.out).mono ?_
              rintro e w7 ⟨rfl, hst, hb⟩
              have S3 : Hid _ := hst
              have B3 : Hid _ := hb
              clear hst hb
              go_wp2
              go_meet
              case rel => exact ⟨true, rfl, fun _ => ⟨by rw [← ex_e G1.out (.inr HF.out)]; exact E1.out, (atB_true HF.out).1⟩, fun h => (by cases h), S3.out, B1.out.trans (B2.out.trans B3.out)⟩
            · have HF : Hid _ := bool_false hf
              clear hf
              go_wp2_with fail
              refine (at_no S1.out HE.out).mono ?_
              rintro e w6 ⟨rfl, hst, hb⟩
              have S2 : Hid _ := hst
              have B2 : Hid _ := hb
              clear hst hb
              go_wp2_with fail
              refine (at_no S2.out HF.out).mono ?_
              rintro e w7 ⟨rfl, hst, hb⟩
              have S3 : Hid _ := hst
              have B3 : Hid _ := hb
              clear hst hb
              go_wp2
              go_meet
              case rel => exact ⟨false, rfl, fun h => (by cases h), fun _ => ex_none G1.out HE.out HF.out, S3.out, B1.out.trans (B2.out.trans B3.out)⟩
        case rest =>
          clear S1 B1 G1
          obtain ⟨b, rfl, A⟩ := hcut
          cases b with
          | false =>
            have X : Hid _ := A.out.2.1 rfl
            have S1 : Hid _ := A.out.2.2.1
            have B1 : Hid _ := A.out.2.2.2
            clear A
            go_wp2
            go_ret
            exact number_end E1.out X.out.1 X.out.2 S1.out B1.out
          | true =>
            have hk := (A.out.1 rfl).2
            have c1 := A.out.2.2.1.c1
            have f1 := A.out.2.2.1.f1
            have S1 : Hid _ := A.out.2.2.1.inc hk
            have E2 : Hid _ := (A.out.1 rfl).1
            have B1 : Hid _ := A.out.2.2.2.setCell (Nat.le_refl _) (.int .i64 ((k3 : Int) + 1)) (p := ⟨p, 1, none⟩)
            clear A E1
            go_upto_region 13 with fail
            clear c1 f1
            go_cut [54] (fun s54 wf => ∃ b : Bool, s54 = .bool b ∧ Aside ((b = true → R z n 7 (k3 + 1 + 1) = R0 ∧ k3 + 1 < n) ∧ (b = false → atB z n (k3 + 1) 43 = false ∧ atB z n (k3 + 1) 45 = false) ∧ St p g n ao cp z (k3 + 1) wf ∧ Below p w wf))
            case first =>
              by_cases he : atB z n (k3 + 1) 43 = true
              · have HE : Hid _ := he
                clear he
                go_wp2_with fail
                refine (at_yes S1.out HE.out).mono ?_
                rintro e w6 ⟨rfl, hst, hb⟩
                have S2 : Hid _ := hst
                have B2 : Hid _ := hb
                clear hst hb
                go_wp2
                go_meet
                case rel => exact ⟨true, rfl, fun _ => ⟨by rw [← ex_sign (.inl HE.out)]; exact E2.out, (atB_true HE.out).1⟩, fun h => (by cases h), S2.out, B1.out.trans B2.out⟩
              · have HE : Hid _ := bool_false he
                clear he
                by_cases hf : atB z n (k3 + 1) 45 = true
                · have HF : Hid _ := hf
                  clear hf
                  go_wp2_with fail
                  refine (at_no S1.out HE.out).mono ?_
                  rintro e w6 ⟨rfl, hst, hb⟩
                  have S2 : Hid _ := hst
                  have B2 : Hid _ := hb
                  clear hst hb
                  go_wp2_with fail
                  refine (at_yes S2.out HF.out).mono ?_
                  rintro e w7 ⟨rfl, hst, hb⟩
                  have S3 : Hid _ := hst
                  have B3 : Hid _ := hb
                  clear hst hb
                  go_wp2
                  go_meet
                  case rel => exact ⟨true, rfl, fun _ => ⟨by rw [← ex_sign (.inr HF.out)]; exact E2.out, (atB_true HF.out).1⟩, fun h => (by cases h), S3.out, B1.out.trans (B2.out.trans B3.out)⟩
                · have HF : Hid _ := bool_false hf
                  clear hf
                  go_wp2_with fail
                  refine (at_no S1.out HE.out).mono ?_
                  rintro e w6 ⟨rfl, hst, hb⟩
                  have S2 : Hid _ := hst
                  have B2 : Hid _ := hb
                  clear hst hb
                  go_wp2_with fail
                  refine (at_no S2.out HF.out).mono ?_
                  rintro e w7 ⟨rfl, hst, hb⟩
                  have S3 : Hid _ := hst
                  have B3 : Hid _ := hb
                  clear hst hb
                  go_wp2
                  go_meet
                  case rel => exact ⟨false, rfl, fun h => (by cases h), fun _ => ⟨HE.out, HF.out⟩, S3.out, B1.out.trans (B2.out.trans B3.out)⟩
            case rest =>
              clear S1 B1
              obtain ⟨b, rfl, A⟩ := hcut
              cases b with
              | true =>
                have hk2 := (A.out.1 rfl).2
                have c1 := A.out.2.2.1.c1
                have f1 := A.out.2.2.1.f1
                have S1 : Hid (St p g n ao cp z (k3 + 1 + 1) (wc.setCell ⟨p, 1, none⟩ (.int .i64 ((k3 : Int) + 1 + 1)))) := A.out.2.2.1.inc hk2
                have E3 : Hid _ := (A.out.1 rfl).1
                have B1 : Hid _ := A.out.2.2.2.setCell (Nat.le_refl _) (.int .i64 ((k3 : Int) + 1 + 1)) (p := ⟨p, 1, none⟩)
                clear A E2
                by_cases hd : D z n (k3 + 1 + 1) = 0
                · have HD : Hid _ := hd
                  clear hd
                  go_wp2_with (go_at_call 18; refine (digits_no S1.out HD.out).mono ?_; rintro e w8 ⟨rfl, hst, hb⟩; have S2 : Hid _ := hst; have B2 : Hid _ := hb; clear hst hb)
                  go_ret
                  exact number_end E3.out (es_none (.inl rfl) HD.out).1 (es_none (.inl rfl) HD.out).2 S2.out (B1.out.trans B2.out)
                · have HD : Hid _ := hd
                  clear hd
                  go_wp2_with (go_at_call 18; refine (digits_yes S1.out HD.out).mono ?_; rintro e w8 ⟨rfl, hst, hb⟩; have S2 : Hid _ := hst; have B2 : Hid _ := hb; clear hst hb)
                  go_ret
                  exact number_end8 E3.out (es_digits (.inl rfl) HD.out) S2.out (B1.out.trans B2.out)
              | false =>
                have G1 : Hid _ := A.out.2.1 rfl
                have S1 : Hid _ := A.out.2.2.1
                have B1 : Hid _ := A.out.2.2.2
                clear A
                by_cases hd : D z n (k3 + 1) = 0
                · have HD : Hid _ := hd
                  clear hd
                  go_wp2_with (go_at_call 18; refine (digits_no S1.out HD.out).mono ?_; rintro e w8 ⟨rfl, hst, hb⟩; have S2 : Hid _ := hst; have B2 : Hid _ := hb; clear hst hb)
                  go_ret
                  exact number_end E2.out (es_none (.inr ⟨rfl, G1.out⟩) HD.out).1 (es_none (.inr ⟨rfl, G1.out⟩) HD.out).2 S2.out (B1.out.trans B2.out)
                · have HD : Hid _ := hd
                  clear hd
                  go_wp2_with (go_at_call 18; refine (digits_yes S1.out HD.out).mono ?_; rintro e w8 ⟨rfl, hst, hb⟩; have S2 : Hid _ := hst; have B2 : Hid _ := hb; clear hst hb)
                  go_ret
                  exact number_end8 E2.out (es_digits (.inr ⟨rfl, G1.out⟩) HD.out) S2.out (B1.out.trans B2.out)
end Go.Proofs.Qxb6600264a
