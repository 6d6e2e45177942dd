/- The plain functions behind 'turnState.behind', 'behindModel' and 'newRateRoles', and the contracts of the Go functions that compute them. -/
import Derived.Test.Qxb6602760aModsRows
import Derived.WalkKit
import Derived.WalkSpells
import Derived.WalkLawsBesides
import Derived.Laws.Bits64
import Derived.Laws.BitsAllLaws
import Derived.OpenShut
namespace Go.Proofs.Qxb6602760aMods
open Go.RowKit

theorem ret_int {k : IntKind} {a b : Int} (h : a = b) : Ending.returned (.int k a) = .returned (.int k b) := by rw [h]

/-! ### the plain functions -/
def beh (s e : Int) : Int := wrap64 (IntKind.u64.wrap (IntKind.u64.wrap (IntKind.u64.wrap e - s / 8) * 8)) / 8

theorem beh_eq (s e : Int) : beh s e = (e - s / 8 + 1152921504606846976) % 2305843009213693952 - 1152921504606846976 := by
  simp only [beh, wrap64, IntKind.wrap_u64]
  omega

theorem mask61 (e : Int) : bits BinOp.and IntKind.u64 (IntKind.u64.wrap e) 2305843009213693951 = e % 2305843009213693952 := by
  rw [IntKind.wrap_u64, u64_and _ _ (by omega) (by omega) (by omega) (by omega)]
  have h := Nat.and_two_pow_sub_one_eq_mod (e % 18446744073709551616).toNat 61
  have h2 : (2305843009213693951 : Int).toNat = 2 ^ 61 - 1 := by decide
  rw [h2, h]
  omega

/-! ### the contracts -/
set_option maxHeartbeats 400000 in
theorem behind_any (s e : Int) (w : World) :
    Calls Trym.prog 6 #[.int .u64 s, .int .i64 e] w fun r w' => r = .returned (.int .i64 (beh s e)) ∧ w' = w := by
  go_enter Trym.func6, Trym.ntmps6
  go_wp2
  go_ret
  exact ⟨rfl, rfl⟩

set_option maxHeartbeats 400000 in
theorem model_any (s e : Int) (w : World) (h0 : 0 ≤ s) (h1 : s ≤ 18446744073709551615) :
    Calls Trym.prog 7 #[.int .u64 s, .int .i64 e] w fun r w' => r = .returned (.int .i64 (beh s e)) ∧ w' = w := by
  go_enter Trym.func7, Trym.ntmps7
  go_wp2
  all_goals
    go_ret
    refine ⟨ret_int ?_, rfl⟩
    rw [beh_eq]
    simp only [wrap64, mask61] at *
    omega

/-! ### the roles -/
theorem or_four (c : Int) (h0 : 0 ≤ c) (h1 : c ≤ 3) : bits BinOp.or IntKind.u64 c 4 = c + 4 := by
  rw [u64_or _ _ (by omega) (by omega) (by omega) (by omega)]
  have h2 : (4 : Int).toNat = 4 := by decide
  rw [h2, Nat.or_comm, nat_join 2 4 c.toNat (by decide) (by omega)]
  omega

theorem pack (e r : Int) (h0 : 0 ≤ r) (h1 : r ≤ 7) : bits BinOp.or IntKind.u64 (IntKind.u64.wrap (IntKind.u64.wrap e * 8)) r = (e * 8) % 18446744073709551616 + r := by
  rw [IntKind.wrap_u64, IntKind.wrap_u64, u64_or _ _ (by omega) (by omega) (by omega) (by omega)]
  rw [nat_join 3 _ r.toNat (by omega) (by omega)]
  omega

def rolesOf (c : Int) (p : Bool) : Int := if p then c + 4 else c

set_option maxHeartbeats 400000 in
theorem roles_any (c : Int) (p : Bool) (w : World) (h0 : 0 ≤ c) (h1 : c ≤ 3) :
    Calls Trym.prog 8 #[.int .i64 c, .bool p] w fun r w' => r = .returned (.int .u64 (rolesOf c p)) ∧ w' = w := by
  have H : Hid (bits BinOp.or IntKind.u64 c 4 = c + 4) := or_four c h0 h1
  cases p
  · go_enter Trym.func8, Trym.ntmps8
    go_wp2
    go_ret
    exact ⟨rfl, rfl⟩
  · go_enter Trym.func8, Trym.ntmps8
    go_wp2
    go_ret
    exact ⟨ret_int H.out, rfl⟩

end Go.Proofs.Qxb6602760aMods
