/-
  The walk of jsonwire.ConsumeNumberResumable on its good ways: at the head of a number of m bytes it returns m and no error, and changes nothing.
-/
import Derived.Test.YtankdghamcbcbaaGreatDoorNum
import Derived.Outline
import Derived.WalkLawsBesides
import Derived.WalkSpells
import Derived.WalkMore
import Derived.Lib.Hide
namespace Go.Proofs.YtankdghamcbcbaaGreatDoor.Own
open Go.RowKit Go.Proofs.YtankdghamcbcbaaGreatDoorW.PrintWords Go.Proofs.YtankdghamcbcbaaGreatDoorW.PrintLast Go.Proofs.YtankdghamcbcbaaGreatDoorW.PrintMore JN
def Rel26 (xs : List Int) (n m : Nat) (v2 v6 : Value) : Prop := ∃ q st r : Nat, v6 = .int .i64 q ∧ v2 = .int .u64 st ∧ q ≤ n ∧ frac (xs.drop q) = some r ∧ m = q + r
def Rel26e (xs : List Int) (n m : Nat) (v2 v6 : Value) : Prop := ∃ q st r : Nat, v6 = .int .i64 q ∧ v2 = .int .u64 st ∧ q ≤ n ∧ expo (xs.drop q) = some r ∧ m = q + r
set_option maxHeartbeats 4000000 in
set_option maxRecDepth 100000 in
theorem cnr_ok (ad : Addr) (n c m : Nat) (xs : List Int) (w : World) (hx : xs.length = n) (hm : n ≤ 140737488351232)
    (hc : ∀ i : Nat, i < n → w.cell? (ad.add i) = some (.int .u8 (rd xs i))) (hnum : num xs = some m) :
    Calls Tryz.prog 15 #[.slice (some ad) n c, .int .i64 0, .int .u64 0] w fun e w' => ∃ st : Nat, e = .returned (.tuple #[.int .i64 m, .int .u64 st, .nilIface]) ∧ w = w' := by
  obtain ⟨hpos, p, r', hp, hwh, hr⟩ := num_at hnum
  obtain ⟨hpl, hwhole⟩ := whole_at hwh
  have HC := Lib.hid hc
  clear hc
  have HX := Lib.hid hx
  have HR := Lib.hid hr
  have HP := Lib.hid hp
  have HW := Lib.hid hwhole
  have c0 : w.cell? ad = some (.int .u8 (rd xs 0)) := by have h := HC.out 0 (by omega); simpa [Addr.add] using h
  have hn0 : 0 < n := by omega
  have hpn : p < n := by omega
  clear hnum hwh hx hr hwhole hpos hpl hp
  go_enter Tryz.func15, Tryz.ntmps15
  go_wp2_with fail
  go_step3
  go_wp2_with fail
  go_step3
  have hp1 : p ≤ 1 := by rcases HP.out with ⟨h, _⟩ | ⟨h, _⟩ <;> omega
  go_upto_if 68 with (fail)
  go_cut [6] from 58 to 71 (fun v6 wc => v6 = .int .i64 p ∧ w = wc)
  case first => as_aux_lemma =>
    rcases HP.out with ⟨rfl, h⟩ | ⟨rfl, h⟩
    · have t : (rd xs 0 == 45) = false := by simpa using h
      clear h
      go_wp2
      go_meet
      case rel => exact ⟨rfl, rfl⟩
    · have t : (rd xs 0 == 45) = true := by simpa using h
      clear h
      go_wp2
      go_meet
      case rel => exact ⟨rfl, rfl⟩
  case rest =>
    obtain ⟨rfl, rfl⟩ := hcut
    have hcp := HC.out p hpn
    have hnp : ¬ n ≤ p := by omega
    go_upto_block 4 with (fail)
    go_cut [2, 6] from 71 to 131 (fun v2 v6 wc => Rel26 xs n m v2 v6 ∧ w = wc)
    case first =>
      rcases HW.out with ⟨h48, r2, hf, he⟩ | ⟨h49, h57, r2, hf, he⟩
      · as_aux_lemma =>
        have t : (rd xs ↑p == 48) = true := by simpa using h48
        have HF := Lib.hid hf
        have HE := Lib.hid he
        clear h48 hf he
        go_wp2_with fail
        go_meet
        case rel =>
          have h1 := HE.out
          have h2 := HR.out
          exact ⟨⟨p + 1, 3, r2, by go_num, rfl, by omega, HF.out, by omega⟩, rfl⟩
      · as_aux_lemma =>
        have t : (rd xs ↑p == 48) = false := by simp; omega
        have hge : 49 ≤ rd xs ↑p := h49
        have hle : rd xs ↑p ≤ 57 := h57
        have HF := Lib.hid hf
        have HE := Lib.hid he
        have hD := digs_bound xs (p + 1) (by have := HX.out; omega)
        have HD := Lib.hid hD
        clear h49 h57 hf he hD
        go_wp2_with fail
        go_loop [6] (fun v => ∃ k : Nat, v = .int .i64 k ∧ k ≤ n ∧ Hid (k + digs (xs.drop k) = p + 1 + digs (xs.drop (p + 1)))) (fun v => n - (intOf v).toNat)
        case atStart => exact ⟨p + 1, by go_num, by omega, Lib.hid rfl⟩
        case round =>
          obtain ⟨k, rfl, hk, HK⟩ := hrel
          by_cases hkn : k < n
          · have hck := HC.out k hkn
            have hkl : k < xs.length := by have := HX.out; omega
            cases hd : isDig (rd xs k)
            · have hz := digs_no (xs := xs) (q := k) (fun _ => hd)
              have HZ := Lib.hid hz
              have hnd : ¬ (48 ≤ rd xs k ∧ rd xs k ≤ 57) := by rw [← isDig_iff, hd]; simp
              clear hd hz
              have hlo : 48 ≤ rd xs k ∨ rd xs k < 48 := by omega
              rcases hlo with hlo | hlo
              all_goals
                first | (have hhi : 57 < rd xs k := by omega) | skip
                clear hnd
                go_wp2_with fail
                go_meet
                case rel =>
                  have h0 := HK.out
                  have h1 := HE.out
                  have h2 := HR.out
                  have h3 := HZ.out
                  have hke : k = p + 1 + digs (xs.drop (p + 1)) := by omega
                  exact ⟨⟨k, 2, r2, rfl, rfl, hk, by rw [hke]; exact HF.out, by omega⟩, rfl⟩
            · have hy := digs_yes hkl hd
              have HY := Lib.hid hy
              obtain ⟨hlo, hhi⟩ := (isDig_iff _).1 hd
              clear hd hy
              go_wp2_with fail
              go_round
              case rel => exact ⟨k + 1, by go_num, by omega, by have h0 := HK.out; have h1 := HY.out; exact Lib.hid (by omega)⟩
              case measure => simp [intOf]; omega
          · have hkn' : n ≤ k := by omega
            clear hkn
            go_wp2_with fail
            go_meet
            case rel =>
              have h0 := HK.out
              have h1 := HE.out
              have h2 := HR.out
              have h3 := HD.out
              have hz : digs (xs.drop k) = 0 := digs_no (fun h => absurd h (by have := HX.out; omega))
              have hke : k = p + 1 + digs (xs.drop (p + 1)) := by omega
              exact ⟨⟨k, 2, r2, rfl, rfl, hk, by rw [hke]; exact HF.out, by omega⟩, rfl⟩
    case rest =>
      obtain ⟨⟨q, st, r, rfl, rfl, hq, hf, he⟩, rfl⟩ := hcut
      clear hcp hnp hpn hp1 hn0 c0
      have HF := Lib.hid hf
      have HE := Lib.hid he
      clear hf he
      go_wp2_with fail
      go_step3
      go_step
      go_step
      go_step
      go_cut [2, 6] from 131 to 199 (fun v2 v6 wc => Rel26e xs n m v2 v6 ∧ w = wc)
      case first =>
        rcases frac_at HF.out with ⟨h46, hf⟩ | ⟨hql, h46, hz, r', hf, he⟩
        · as_aux_lemma =>
          have HF' := Lib.hid hf
          clear hf HF
          by_cases hqn : q < n
          · have hcq := HC.out q hqn
            have t : (rd xs ↑q == 46) = false := by have h := h46 (by have := HX.out; omega); simpa using h
            clear h46
            go_wp2_with fail
            go_meet
            case rel => exact ⟨⟨q, st, r, rfl, rfl, hq, HF'.out, HE.out⟩, rfl⟩
          · have hqn' : n ≤ q := by omega
            clear h46 hqn
            go_wp2_with fail
            go_meet
            case rel => exact ⟨⟨q, st, r, rfl, rfl, hq, HF'.out, HE.out⟩, rfl⟩
        · as_aux_lemma =>
          have hqn : q < n := by have := HX.out; omega
          have hcq := HC.out q hqn
          have t : (rd xs ↑q == 46) = true := by simpa using h46
          obtain ⟨hq1, hd1⟩ := digs_some hz
          have hq1n : q + 1 < n := by have := HX.out; omega
          have hq1n' : ¬ n ≤ q + 1 := by omega
          have hcq1 : w.cell? ⟨ad.block, ad.off + (q + 1), none⟩ = some (.int .u8 (rd xs ((q + 1 : Nat) : Int))) := by have h := HC.out (q + 1) hq1n; simpa [Addr.add] using h
          have e1 : ((q + 1 : Nat) : Int) = (q : Int) + 1 := by omega
          rw [e1] at hcq1 hd1
          obtain ⟨hlo, hhi⟩ := (isDig_iff _).1 hd1
          have hD := digs_bound xs (q + 1) (by omega)
          have HD := Lib.hid hD
          have hy := digs_yes (xs := xs) (q := q + 1) hq1 (by rw [e1]; exact hd1)
          have HY := Lib.hid hy
          have HF' := Lib.hid hf
          have HE' := Lib.hid he
          clear hf he h46 hz hql e1 hd1 hD hy hq1
          go_wp2_with fail
          go_loop [6] (fun v => ∃ k : Nat, v = .int .i64 k ∧ k ≤ n ∧ Hid (k + digs (xs.drop k) = q + 1 + digs (xs.drop (q + 1)))) (fun v => n - (intOf v).toNat)
          case atStart => exact ⟨q + 1 + 1, by go_num, by omega, by have h := HY.out; exact Lib.hid (by omega)⟩
          case round =>
            obtain ⟨k, rfl, hk, HK⟩ := hrel
            by_cases hkn : k < n
            · have hck := HC.out k hkn
              have hkl : k < xs.length := by have := HX.out; omega
              cases hd : isDig (rd xs k)
              · have hz := digs_no (xs := xs) (q := k) (fun _ => hd)
                have HZ := Lib.hid hz
                have hnd : ¬ (48 ≤ rd xs k ∧ rd xs k ≤ 57) := by rw [← isDig_iff, hd]; simp
                clear hd hz
                have hlo' : 48 ≤ rd xs k ∨ rd xs k < 48 := by omega
                rcases hlo' with hlo' | hlo'
                all_goals
                  first | (have hhi' : 57 < rd xs k := by omega) | skip
                  clear hnd
                  go_wp2_with fail
                  go_meet
                  case rel =>
                    have h0 := HK.out
                    have h1 := HE'.out
                    have h2 := HE.out
                    have h3 := HZ.out
                    have hke : k = q + 1 + digs (xs.drop (q + 1)) := by omega
                    exact ⟨⟨k, 4, r', rfl, rfl, hk, by rw [hke]; exact HF'.out, by omega⟩, rfl⟩
              · have hy := digs_yes hkl hd
                have HY' := Lib.hid hy
                obtain ⟨hlo', hhi'⟩ := (isDig_iff _).1 hd
                clear hd hy
                go_wp2_with fail
                go_round
                case rel => exact ⟨k + 1, by go_num, by omega, by have h0 := HK.out; have h1 := HY'.out; exact Lib.hid (by omega)⟩
                case measure => simp [intOf]; omega
            · have hkn' : n ≤ k := by omega
              clear hkn
              go_wp2_with fail
              go_meet
              case rel =>
                have h0 := HK.out
                have h1 := HE'.out
                have h2 := HE.out
                have h3 := HD.out
                have hz : digs (xs.drop k) = 0 := digs_no (fun h => absurd h (by have := HX.out; omega))
                have hke : k = q + 1 + digs (xs.drop (q + 1)) := by omega
                exact ⟨⟨k, 4, r', rfl, rfl, hk, by rw [hke]; exact HF'.out, by omega⟩, rfl⟩
      case rest =>
        clear HF HE
        obtain ⟨⟨q, st, r, rfl, rfl, hq, hf, he⟩, rfl⟩ := hcut
        have HF := Lib.hid hf
        have HE := Lib.hid he
        clear hf he
        go_wp2_with fail
        go_step3
        go_step
        go_step
        go_step
        go_cut [2, 6] from 199 to 298 (fun v2 v6 wc => (∃ st : Nat, v2 = .int .u64 st) ∧ v6 = .int .i64 m ∧ w = wc)
        case first =>
          rcases expo_at HF.out with ⟨hne, hr0⟩ | ⟨hql, hee, s, hs, hz, hr0⟩
          · as_aux_lemma =>
            have hqm : q = m := by have := HE.out; omega
            subst hqm
            clear HF HE hr0
            by_cases hqn : q < n
            · have hcq := HC.out q hqn
              obtain ⟨h1, h2⟩ := hne (by have := HX.out; omega)
              have t1 : (rd xs ↑q == 101) = false := by simpa using h1
              have t2 : (rd xs ↑q == 69) = false := by simpa using h2
              clear hne h1 h2
              go_wp2_with fail
              go_meet
              case rel => exact ⟨⟨st, rfl⟩, rfl, rfl⟩
            · have hqn' : n ≤ q := by omega
              clear hne hqn
              go_wp2_with fail
              go_meet
              case rel => exact ⟨⟨st, rfl⟩, rfl, rfl⟩
          · as_aux_lemma =>
            have hqn : q < n := by have := HX.out; omega
            have hcq := HC.out q hqn
            have HH := Lib.hid HF
            obtain ⟨hz1, hz2⟩ := digs_some hz
            have hD := digs_bound xs (q + 1 + s) (by omega)
            have HD := Lib.hid hD
            have hy := digs_yes (xs := xs) (q := q + 1 + s) hz1 hz2
            have HY := Lib.hid hy
            have HE' := Lib.hid hr0
            have HEE := Lib.hid hee
            have HZ2 := Lib.hid hz2
            have hsn : q + 1 + s < n := by have := HX.out; omega
            have hs1 : s ≤ 1 := by rcases sgn_at (xs := xs) (q := q + 1) with ⟨_, _, h⟩ | ⟨_, h⟩ <;> omega
            have HS := Lib.hid (And.intro hs (sgn_at (xs := xs) (q := q + 1)))
            clear hz hD hy hr0 hee hs hz1 hz2 hql
            have t : (rd xs ↑q == 101) = true ∨ (rd xs ↑q == 101) = false ∧ (rd xs ↑q == 69) = true := by
              rcases HEE.out with h | h
              · exact .inl (by simpa using h)
              · exact .inr ⟨by simp; omega, by simpa using h⟩
            have HT := Lib.hid t
            clear t
            go_upto_region 42 with (fail)
            go_cut [218] from 199 to 219 (fun v wc => v = .bool true ∧ w = wc)
            case first =>
              rcases HT.out with t | ⟨t1, t2⟩
              · go_wp2_with fail
                go_meet
                case rel => exact ⟨rfl, rfl⟩
              · go_wp2_with fail
                go_meet
                case rel => exact ⟨rfl, rfl⟩
            case rest =>
              obtain ⟨rfl, rfl⟩ := hcut
              clear hcq
              go_upto_region 45 with (fail)
              go_cut [241] from 219 to 242 (fun v wc => (∃ b : Bool, v = .bool b ∧ Hid (b = decide (s = 1))) ∧ w = wc)
              case first =>
                obtain ⟨hs, h⟩ := HS.out
                have hlen := HX.out
                rcases h with ⟨hql, hc, h1⟩ | ⟨hc, h0⟩
                · have e : s = 1 := by omega
                  have hq1n : q + 1 < n := by omega
                  have hcq1 : w.cell? ⟨ad.block, ad.off + (q + 1), none⟩ = some (.int .u8 (rd xs ((q + 1 : Nat) : Int))) := by have h := HC.out (q + 1) hq1n; simpa [Addr.add] using h
                  have e1 : ((q + 1 : Nat) : Int) = (q : Int) + 1 := by omega
                  rw [e1] at hcq1 hc
                  have E := Lib.hid e
                  clear e e1 hs h1 hlen hql
                  rcases hc with hc | hc
                  · have t1 : (rd xs (↑q + 1) == 45) = true := by simpa using hc
                    clear hc
                    go_wp2_with fail
                    go_meet
                    case rel => exact ⟨⟨_, rfl, Lib.hid (by rw [E.out]; rfl)⟩, rfl⟩
                  · have t1 : (rd xs (↑q + 1) == 45) = false := by simp; omega
                    have t2 : (rd xs (↑q + 1) == 43) = true := by simpa using hc
                    clear hc
                    go_wp2_with fail
                    go_meet
                    case rel => exact ⟨⟨_, rfl, Lib.hid (by rw [E.out]; rfl)⟩, rfl⟩
                · have e : s = 0 := by omega
                  have hq1n : q + 1 < n := by omega
                  have hcq1 : w.cell? ⟨ad.block, ad.off + (q + 1), none⟩ = some (.int .u8 (rd xs ((q + 1 : Nat) : Int))) := by have h := HC.out (q + 1) hq1n; simpa [Addr.add] using h
                  obtain ⟨hc1, hc2⟩ := hc (by omega)
                  have e1 : ((q + 1 : Nat) : Int) = (q : Int) + 1 := by omega
                  rw [e1] at hcq1 hc1 hc2
                  have E := Lib.hid e
                  have t1 : (rd xs (↑q + 1) == 45) = false := by simpa using hc1
                  have t2 : (rd xs (↑q + 1) == 43) = false := by simpa using hc2
                  clear e e1 hs h0 hlen hc hc1 hc2
                  go_wp2_with fail
                  go_meet
                  case rel => exact ⟨⟨_, rfl, Lib.hid (by rw [E.out]; rfl)⟩, rfl⟩
              case rest =>
                obtain ⟨⟨b, rfl, HB⟩, rfl⟩ := hcut
                go_upto_if 241 with (fail)
                go_cut [6] from 241 to 244 (fun v6 wc => v6 = .int .i64 (q + 1 + s : Nat) ∧ w = wc)
                case first =>
                  cases b
                  · go_wp2_with fail
                    go_meet
                    case rel => exact ⟨by have h : ¬ s = 1 := of_decide_eq_false HB.out.symm; go_num, rfl⟩
                  · go_wp2_with fail
                    go_meet
                    case rel => exact ⟨by have h : s = 1 := of_decide_eq_true HB.out.symm; go_num, rfl⟩
                case rest =>
                  obtain ⟨rfl, rfl⟩ := hcut
                  obtain ⟨k0, HK0⟩ : ∃ k0, Hid (k0 = q + 1 + s) := ⟨_, Lib.hid rfl⟩
                  have hcs := HC.out (q + 1 + s) hsn
                  rw [← HK0.out] at hcs ⊢
                  obtain ⟨hlo, hhi⟩ : 48 ≤ rd xs (k0 : Int) ∧ rd xs (k0 : Int) ≤ 57 := by rw [HK0.out]; exact (isDig_iff _).1 HZ2.out
                  have hk0 : ¬ n ≤ k0 := by rw [HK0.out]; omega
                  have hkd : digs (xs.drop k0) = digs (xs.drop (k0 + 1)) + 1 := by rw [HK0.out]; exact HY.out
                  have HKD := Lib.hid hkd
                  clear hkd
                  go_wp2_with fail
                  go_loop [6] (fun v => ∃ k : Nat, v = .int .i64 k ∧ k ≤ n ∧ Hid (k + digs (xs.drop k) = k0 + digs (xs.drop k0))) (fun v => n - (intOf v).toNat)
                  case atStart => exact ⟨k0 + 1, by go_num, by omega, by have h := HKD.out; exact Lib.hid (by omega)⟩
                  case round =>
                    obtain ⟨k, rfl, hk, HK⟩ := hrel
                    have hmk : digs (xs.drop k) = 0 → k = m := by
                      intro hz
                      have h0 := HK.out
                      have h1 := HE'.out
                      have h2 := HE.out
                      have h3 := HK0.out
                      rw [h3] at h0
                      omega
                    have HMK := Lib.hid hmk
                    clear hmk
                    by_cases hkn : k < n
                    · have hck := HC.out k hkn
                      have hkl : k < xs.length := by have := HX.out; omega
                      cases hd : isDig (rd xs k)
                      · have hz := digs_no (xs := xs) (q := k) (fun _ => hd)
                        have HZ := Lib.hid hz
                        have hnd : ¬ (48 ≤ rd xs k ∧ rd xs k ≤ 57) := by rw [← isDig_iff, hd]; simp
                        clear hd hz
                        have hlo' : 48 ≤ rd xs k ∨ rd xs k < 48 := by omega
                        rcases hlo' with hlo' | hlo'
                        all_goals
                          first | (have hhi' : 57 < rd xs k := by omega) | skip
                          clear hnd
                          go_wp2_with fail
                          go_meet
                          case rel =>
                            rw [HMK.out HZ.out]
                            exact ⟨⟨6, rfl⟩, rfl, rfl⟩
                      · have hy := digs_yes hkl hd
                        have HY' := Lib.hid hy
                        obtain ⟨hlo', hhi'⟩ := (isDig_iff _).1 hd
                        clear hd hy
                        go_wp2_with fail
                        go_round
                        case rel => exact ⟨k + 1, by go_num, by omega, by have h0 := HK.out; have h1 := HY'.out; exact Lib.hid (by omega)⟩
                        case measure => simp [intOf]; omega
                    · have hkn' : n ≤ k := by omega
                      clear hkn
                      go_wp2_with fail
                      go_meet
                      case rel =>
                        have hz : digs (xs.drop k) = 0 := digs_no (fun h => absurd h (by have := HX.out; omega))
                        rw [HMK.out hz]
                        exact ⟨⟨6, rfl⟩, rfl, rfl⟩
        case rest =>
          obtain ⟨⟨st', rfl⟩, rfl, rfl⟩ := hcut
          go_wp2_with fail
          rw [Exit.noGoto_ret]
          go_ret3
          exact ⟨st', rfl, rfl⟩
end Go.Proofs.YtankdghamcbcbaaGreatDoor.Own
