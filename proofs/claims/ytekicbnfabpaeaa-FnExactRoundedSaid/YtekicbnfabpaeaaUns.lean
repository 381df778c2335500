/- The unrounded numbers' functions of the package (bool2, rsh, div, the five ways to round), by contracts: each returns what its plain function says. -/
import Derived.Test.YtekicbnfabpaeaaProg
import Derived.Test.YtekicbnfabpaeaaUnsP
import Derived.WalkLawsBesides
import Derived.Deep.QuietTactic
import Derived.BigQuiet
import Derived.Handy
import Derived.Lib.Hide
namespace Go.Proofs.Ytekicbnfabpaeaa
open Go.RowKit

theorem bool2u (b : Bool) (w : World) : Calls Try.prog 65 #[.bool b] w fun e w' => e = .returned (.int .u64 (b2 b)) ∧ w = w' := by
  cases b
  all_goals
    go_enter Try.func65, Try.ntmps65
    go_wp2
    go_ret
    exact ⟨rfl, rfl⟩

theorem rsh_any (u k : Nat) (hu : u < 18446744073709551616) (hk : k < 64) (w : World) : Calls Try.prog 53 #[.int .u64 u, .int .i64 k] w fun e w' => e = .returned (.int .u64 (rshN u k)) ∧ ∃ n, w' = w.drewN n := by
  have H := Lib.hid (rsh_val u k hu hk)
  go_enter Try.func53, Try.ntmps53
  go_wp2_with fail
  go_quiet ((go_at_call 65; exact hush (bool2u _ _)))
  go_wp2_with fail
  go_ret
  exact ⟨ret_int H.out, _, rfl⟩

theorem div_any (u d : Nat) (hu : u < 18446744073709551616) (hd : 0 < d) (hd2 : d < 18446744073709551616) (w : World) : Calls Try.prog 59 #[.int .u64 u, .int .u64 d] w fun e w' => e = .returned (.int .u64 (divN u d)) ∧ ∃ n, w' = w.drewN n := by
  have H := Lib.hid (div_val u d hu hd)
  go_enter Try.func59, Try.ntmps59
  go_wp2_with fail
  go_quiet ((go_at_call 65; exact hush (bool2u _ _)))
  go_wp2_with fail
  go_ret
  exact ⟨ret_int H.out, _, rfl⟩

theorem rsh_out (u k : Int) (h0 : 0 ≤ u) (h1 : u ≤ 18446744073709551615) (k0 : 0 ≤ k) (k1 : k < 64) (w : World) :
    Calls Try.prog 19 #[.int .u64 u, .int .i64 k] w fun e w' => e = .returned (.int .u64 (rshN u.toNat k.toNat)) ∧ ∃ n, w' = w.drewN n := by
  obtain ⟨u, rfl⟩ := Int.eq_ofNat_of_zero_le h0
  obtain ⟨k, rfl⟩ := Int.eq_ofNat_of_zero_le k0
  go_enter Try.func19, Try.ntmps19
  go_wp2_with (first | (go_at_call 42; go_in) | (go_at_call 53; refine (rsh_any u k (by omega) (by omega) _).mono ?_; rintro e w' ⟨rfl, n, rfl⟩))
  go_ret
  exact ⟨rfl, _, rfl⟩
theorem div_out (u d : Int) (h0 : 0 ≤ u) (h1 : u ≤ 18446744073709551615) (d0 : 1 ≤ d) (d1 : d ≤ 18446744073709551615) (w : World) :
    Calls Try.prog 22 #[.int .u64 u, .int .u64 d] w fun e w' => e = .returned (.int .u64 (divN u.toNat d.toNat)) ∧ ∃ n, w' = w.drewN n := by
  obtain ⟨u, rfl⟩ := Int.eq_ofNat_of_zero_le h0
  obtain ⟨d, rfl⟩ := Int.eq_ofNat_of_zero_le (show 0 ≤ d by omega)
  go_enter Try.func22, Try.ntmps22
  go_wp2_with (first | (go_at_call 44; go_in) | (go_at_call 59; refine (div_any u d (by omega) (by omega) (by omega) _).mono ?_; rintro e w' ⟨rfl, n, rfl⟩))
  go_ret
  exact ⟨rfl, _, rfl⟩
end Go.Proofs.Ytekicbnfabpaeaa
