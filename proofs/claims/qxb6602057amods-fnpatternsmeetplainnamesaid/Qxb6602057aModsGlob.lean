/- The contract of zzGlobMatch (function 13): against a name without a star and without a question mark it answers B at the start; it only reads. -/
import Derived.Test.Qxb6602057aModsRows
import Derived.Test.Qxb6602057aModsGreedy
import Derived.WalkKit
import Derived.WalkSpells
import Derived.WalkLawsBesides
import Derived.BigQuiet
import Derived.Deep.QuietTactic
namespace Go.Proofs.Qxb6602057aMods
open Go.RowKit

theorem ret_bool {a b : Bool} (h : a = b) : Ending.returned (.bool a) = .returned (.bool b) := by rw [h]

set_option maxHeartbeats 2000000 in
theorem glob_any (a b : List Int) (ga gb ca cb : Nat) (w : World) (hb : Pl b) (ha1 : a.length ≤ 1024) (hb1 : b.length ≤ 1024)
    (hca : ∀ k, k < a.length → w.cell? ⟨ga, k, none⟩ = some (.int .i32 (a.getD k 0)))
    (hcb : ∀ k, k < b.length → w.cell? ⟨gb, k, none⟩ = some (.int .i32 (b.getD k 0))) :
    Calls Trym.prog 13 #[.slice (some ⟨ga, 0, none⟩) a.length ca, .slice (some ⟨gb, 0, none⟩) b.length cb] w fun e w' => e = .returned (.bool (B a b 0 0)) ∧ ∃ q, w' = w.drewN q := by
  have HA : Hid (∀ k, k < a.length → w.cell? ⟨ga, k, none⟩ = some (.int .i32 (a.getD k 0))) := hca
  have HB : Hid (∀ k, k < b.length → w.cell? ⟨gb, k, none⟩ = some (.int .i32 (b.getD k 0))) := hcb
  clear hca hcb
  go_enter Trym.func13, Trym.ntmps13
  go_wp2
  go_loopw [5, 6, 7, 8] (fun p s st mk wr => ∃ (pi si mark : Nat) (star : Int), p = .int .i64 pi ∧ s = .int .i64 si ∧ st = .int .i64 star ∧ mk = .int .i64 mark ∧ -1 ≤ star ∧ star ≤ 1024 ∧ Gr a b pi si star mark ∧ ∃ q, wr = w.drewN q)
    (fun p s _ mk _ => grMu a.length b.length (intOf p).toNat (intOf s).toNat (intOf mk).toNat)
  case atStart => exact ⟨0, 0, 0, -1, rfl, rfl, rfl, rfl, by omega, by omega, gr_start a b, 0, rfl⟩
  case round =>
    obtain ⟨pi, si, mark, star, rfl, rfl, rfl, rfl, hs1, hs2, hgr, q, rfl⟩ := hrel
    have hp := hgr.hp
    have hs := hgr.hs
    have hmk := hgr.hm
    by_cases hlt : si < b.length
    · have cS : w.cell? ⟨gb, si, none⟩ = some (.int .i32 (b.getD si 0)) := HB.out si hlt
      obtain ⟨y, hy⟩ : ∃ y, y = b.getD si 0 := ⟨_, rfl⟩
      rw [← hy] at cS
      have HY : Hid (y = b.getD si 0) := hy
      clear hy
      have hlt' : (si : Int) < (b.length : Int) := by omega
      by_cases hpn : pi < a.length
      · have cP : w.cell? ⟨ga, pi, none⟩ = some (.int .i32 (a.getD pi 0)) := HA.out pi hpn
        obtain ⟨x, hx⟩ : ∃ x, x = a.getD pi 0 := ⟨_, rfl⟩
        rw [← hx] at cP
        have HX : Hid (x = a.getD pi 0) := hx
        clear hx
        have hpn' : (pi : Int) < (a.length : Int) := by omega
        by_cases h42 : x = 42
        · have hst : stA a pi = true := by simp only [stA, ← HX.out, h42]; simp [hpn]
          have e1 : (x == 42) = true := by simpa using h42
          have e2 : (x != 42) = false := by simpa using h42
          clear h42
          go_wp2
          go_quiet (fail)
          go_wp2
          go_roundw
          case rel => exact ⟨pi + 1, si, si, (pi : Int), by go_num, rfl, rfl, rfl, by omega, by omega, gr_star hb hgr hst, _, rfl⟩
          case measure =>
            simp only [intOf]
            rw [show ((pi : Int) + 1).toNat = pi + 1 by omega]
            simp only [Int.toNat_natCast]
            exact mu_star hpn hmk
        · have e1 : (x == 42) = false := by simpa using h42
          have e2 : (x != 42) = true := by simpa using h42
          have hst : stA a pi = false := by simp only [stA, ← HX.out, e1, Bool.and_false]
          have hon : onA a pi = true := by simp only [onA, ← HX.out, e1]; simp [hpn]
          clear h42
          by_cases h63 : x = 63
          · have e3 : (x == 63) = true := by simpa using h63
            have hmt : (a.getD pi 0 == 63 || a.getD pi 0 == b.getD si 0) = true := by rw [← HX.out, e3]; rfl
            clear h63
            go_wp2
            go_quiet (fail)
            go_wp2
            go_roundw
            case rel => exact ⟨pi + 1, si + 1, mark, star, by go_num, by go_num, rfl, rfl, hs1, hs2, gr_match hb hgr hlt hon hmt, _, rfl⟩
            case measure =>
              simp only [intOf]
              rw [show ((pi : Int) + 1).toNat = pi + 1 by omega, show ((si : Int) + 1).toNat = si + 1 by omega]
              simp only [Int.toNat_natCast]
              exact mu_match hlt
          · have e3 : (x == 63) = false := by simpa using h63
            clear h63
            cases e4 : (x == y)
            · have hmt : (onA a pi && (a.getD pi 0 == 63 || a.getD pi 0 == b.getD si 0)) = false := by rw [← HX.out, ← HY.out, e3, e4]; simp
              by_cases h0 : 0 ≤ star
              · obtain ⟨st, rfl⟩ := Int.eq_ofNat_of_zero_le h0
                go_wp2
                go_quiet (fail)
                go_wp2
                go_roundw
                case rel => exact ⟨st + 1, mark + 1, mark + 1, (st : Int), by go_num, by go_num, rfl, by go_num, hs1, hs2, gr_back hb hgr hlt hst hmt, _, rfl⟩
                case measure =>
                  simp only [intOf]
                  rw [show ((st : Int) + 1).toNat = st + 1 by omega, show ((mark : Int) + 1).toNat = mark + 1 by omega]
                  simp only [Int.toNat_natCast]
                  exact mu_back hlt hmk
              · have hr := gr_fail hb hgr (by omega) hlt hst hmt
                have HR : Hid (B a b 0 0 = false) := hr
                clear hr
                go_wp2
                go_quiet (fail)
                go_wp2
                go_ret
                exact ⟨ret_bool HR.out.symm, _, rfl⟩
            · have hmt : (a.getD pi 0 == 63 || a.getD pi 0 == b.getD si 0) = true := by rw [← HX.out, ← HY.out, e4]; simp
              go_wp2
              go_quiet (fail)
              go_wp2
              go_roundw
              case rel => exact ⟨pi + 1, si + 1, mark, star, by go_num, by go_num, rfl, rfl, hs1, hs2, gr_match hb hgr hlt hon hmt, _, rfl⟩
              case measure =>
                simp only [intOf]
                rw [show ((pi : Int) + 1).toNat = pi + 1 by omega, show ((si : Int) + 1).toNat = si + 1 by omega]
                simp only [Int.toNat_natCast]
                exact mu_match hlt
      · have hd : decide ((pi : Int) < (a.length : Int)) = false := decide_eq_false (by omega)
        have hst : stA a pi = false := by
          cases h : stA a pi
          · rfl
          · exact absurd (stA_lt h) hpn
        have hon : onA a pi = false := by
          cases h : onA a pi
          · rfl
          · exact absurd (onA_lt h) hpn
        have hmt : (onA a pi && (a.getD pi 0 == 63 || a.getD pi 0 == b.getD si 0)) = false := by rw [hon]; rfl
        by_cases h0 : 0 ≤ star
        · obtain ⟨st, rfl⟩ := Int.eq_ofNat_of_zero_le h0
          go_wp2
          go_quiet (fail)
          go_wp2
          go_roundw
          case rel => exact ⟨st + 1, mark + 1, mark + 1, (st : Int), by go_num, by go_num, rfl, by go_num, hs1, hs2, gr_back hb hgr hlt hst hmt, _, rfl⟩
          case measure =>
            simp only [intOf]
            rw [show ((st : Int) + 1).toNat = st + 1 by omega, show ((mark : Int) + 1).toNat = mark + 1 by omega]
            simp only [Int.toNat_natCast]
            exact mu_back hlt hmk
        · have hr := gr_fail hb hgr (by omega) hlt hst hmt
          have HR : Hid (B a b 0 0 = false) := hr
          clear hr
          go_wp2
          go_quiet (fail)
          go_wp2
          go_ret
          exact ⟨ret_bool HR.out.symm, _, rfl⟩
    · have hse : si = b.length := by omega
      have HE : Hid (B a b 0 0 = B a b pi b.length) := gr_end hb (hse ▸ hgr)
      clear hse hgr
      go_wp2
      go_loopw [5] (fun p wr => ∃ k : Nat, p = .int .i64 k ∧ k ≤ a.length ∧ Hid (B a b 0 0 = B a b k b.length) ∧ ∃ q, wr = w.drewN q) (fun p _ => a.length - (intOf p).toNat)
      case atStart => exact ⟨pi, rfl, hp, HE, q, rfl⟩
      case round =>
        obtain ⟨k, rfl, hk, HK, q2, rfl⟩ := hrel
        by_cases hkn : k < a.length
        · have cP : w.cell? ⟨ga, k, none⟩ = some (.int .i32 (a.getD k 0)) := HA.out k hkn
          obtain ⟨x, hx⟩ : ∃ x, x = a.getD k 0 := ⟨_, rfl⟩
          rw [← hx] at cP
          have HX : Hid (x = a.getD k 0) := hx
          clear hx
          by_cases h42 : x = 42
          · have hst : stA a k = true := by simp only [stA, ← HX.out, h42]; simp [hkn]
            have e1 : (x == 42) = true := by simpa using h42
            clear h42
            go_wp2
            go_roundw
            case rel => exact ⟨k + 1, by go_num, by omega, (HK.out.trans (tail_star hb hst)), q2, rfl⟩
            case measure => simp [intOf]; omega
          · have e1 : (x == 42) = false := by simpa using h42
            have hst : stA a k = false := by simp only [stA, ← HX.out, e1, Bool.and_false]
            have hv : B a b 0 0 = (k == a.length) := HK.out.trans (tail_end hb hk hst)
            have e5 : (k == a.length) = false := by simp; omega
            have HV : Hid (B a b 0 0 = false) := hv.trans e5
            have e6 : ((k : Int) == (a.length : Int)) = false := by simp; omega
            clear h42 hv e5
            go_wp2
            go_ret
            exact ⟨ret_bool HV.out.symm, _, rfl⟩
        · have hst : stA a k = false := by
            cases h : stA a k
            · rfl
            · exact absurd (stA_lt h) hkn
          have hv : B a b 0 0 = (k == a.length) := HK.out.trans (tail_end hb hk hst)
          have hke : k = a.length := by omega
          have HV : Hid (B a b 0 0 = true) := by rw [hke] at hv; exact hv.trans (by simp)
          have e6 : ((k : Int) == (a.length : Int)) = true := by simp; omega
          clear hv hke
          go_wp2
          go_ret
          exact ⟨ret_bool HV.out.symm, _, rfl⟩

end Go.Proofs.Qxb6602057aMods
