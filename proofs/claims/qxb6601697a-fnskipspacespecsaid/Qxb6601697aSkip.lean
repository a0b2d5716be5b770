/-
  THE WALKS of 'provider.skipSpace' (function 25) and 'provider.ZZskipSpace' (function 12), shared by both statements: it returns the place that 'Skips' names, and the world is as it was.
-/
import Derived.Test.Qxb6601697aRows
import Derived.Test.Qxb6601697aPlain
import Derived.WalkKit
import Derived.Below
namespace Go.Proofs.Qxb6601697a
open Go.RowKit

/-- At or past the end nothing is read: the place itself. -/
theorem skip25_past (a : Option Addr) (len cap i : Nat) (w : World) (hi : len ≤ i) :
    Calls Try.prog 25 #[.slice a len cap, .int .i64 (i : Int)] w fun e w' => e = .returned (.int .i64 (i : Int)) ∧ w' = w := by
  have hge : ¬ (i : Int) < (len : Int) := by omega
  have hd : decide ((i : Int) < (len : Int)) = false := by simpa using hi
  go_enter Try.func25, Try.ntmps25
  go_wp2
  refine wp_loop_rounds 1 ?_
  rw [rounds_succ]
  go_wp2
  go_ret
  exact ⟨rfl, rfl⟩

set_option maxHeartbeats 400000 in
/-- From a place inside the slice. -/
theorem skip25_at (b off len cap i : Nat) (zs : List Int) (w : World) (hm : len ≤ 9223372036854775807) (hi : i < len)
    (hc : ∀ j, j < len → w.cell? ⟨b, off + j, none⟩ = some (.int .u8 (zs.getD j 0))) :
    Calls Try.prog 25 #[.slice (some ⟨b, off, none⟩) len cap, .int .i64 (i : Int)] w fun e w' => ∃ r : Nat, e = .returned (.int .i64 (r : Int)) ∧ Skips zs len i r ∧ w' = w := by
  go_enter Try.func25, Try.ntmps25
  go_wp2
  go_loop [1] (fun v => ∃ k : Nat, k ≤ len ∧ Runs zs len i k ∧ v = .int .i64 k) (fun v => len - (intOf v).toNat)
  case atStart => exact ⟨i, by omega, Runs.start zs len i, rfl⟩
  case round =>
    obtain ⟨k, hk, hr, rfl⟩ := hrel
    by_cases hlt : k < len
    · obtain ⟨z, hz⟩ : ∃ z, z = zs.getD k 0 := ⟨_, rfl⟩
      have hck := hc k hlt
      rw [← hz] at hck
      have HZ : Hid (z = zs.getD k 0) := hz
      clear hz hc
      by_cases h1 : z = 32
      · subst h1
        go_wp2
        go_round
        case rel => exact ⟨k + 1, hlt, hr.next hlt (by rw [← HZ.out]; rfl), by go_num⟩
        case measure => simp [intOf]; omega
      by_cases h2 : z = 9
      · subst h2
        go_wp2
        go_round
        case rel => exact ⟨k + 1, hlt, hr.next hlt (by rw [← HZ.out]; rfl), by go_num⟩
        case measure => simp [intOf]; omega
      by_cases h3 : z = 10
      · subst h3
        go_wp2
        go_round
        case rel => exact ⟨k + 1, hlt, hr.next hlt (by rw [← HZ.out]; rfl), by go_num⟩
        case measure => simp [intOf]; omega
      by_cases h4 : z = 13
      · subst h4
        go_wp2
        go_round
        case rel => exact ⟨k + 1, hlt, hr.next hlt (by rw [← HZ.out]; rfl), by go_num⟩
        case measure => simp [intOf]; omega
      have hw : ws (zs.getD k 0) = false := by rw [← HZ.out]; exact ws_of_none h1 h2 h3 h4
      have HW : Hid (ws (zs.getD k 0) = false) := hw
      have e1 : (z == 32) = false := by simpa using h1
      have e2 : (z == 9) = false := by simpa using h2
      have e3 : (z == 10) = false := by simpa using h3
      have e4 : (z == 13) = false := by simpa using h4
      clear hw HZ h1 h2 h3 h4
      go_wp2
      go_ret
      exact ⟨k, rfl, ⟨hr, fun _ => HW.out⟩, rfl⟩
    · go_wp2
      go_ret
      exact ⟨k, rfl, ⟨hr, fun h => absurd h hlt⟩, rfl⟩

/-- What the callers ask of the slice that is handed over: its first 'len' cells hold the numbers 'zs', whatever its address where it is empty. -/
def Holds (w : World) (a : Option Addr) (len : Nat) (zs : List Int) : Prop :=
  0 < len → ∃ b off, a = some ⟨b, off, none⟩ ∧ ∀ j, j < len → w.cell? ⟨b, off + j, none⟩ = some (.int .u8 (zs.getD j 0))

/-- 'skipSpace' at every place that is not negative. -/
theorem skip25 (a : Option Addr) (len cap i : Nat) (zs : List Int) (w : World) (hm : len ≤ 9223372036854775807) (hh : Holds w a len zs) :
    Calls Try.prog 25 #[.slice a len cap, .int .i64 (i : Int)] w fun e w' => ∃ r : Nat, e = .returned (.int .i64 (r : Int)) ∧ Skips zs len i r ∧ w' = w := by
  by_cases hi : i < len
  · obtain ⟨b, off, ha, hc⟩ := hh (by omega)
    subst ha
    exact skip25_at b off len cap i zs w hm hi hc
  · exact (skip25_past a len cap i w (by omega)).mono fun e w' ⟨he, hw⟩ => ⟨i, he, ⟨Runs.start zs len i, fun h => absurd h hi⟩, hw⟩

/-- 'ZZskipSpace' hands on what 'skipSpace' returns. -/
theorem skip12 (a : Option Addr) (len cap i : Nat) (zs : List Int) (w : World) (hm : len ≤ 9223372036854775807) (hh : Holds w a len zs) :
    Calls Try.prog 12 #[.slice a len cap, .int .i64 (i : Int)] w fun e w' => ∃ r : Nat, e = .returned (.int .i64 (r : Int)) ∧ Skips zs len i r ∧ w' = w := by
  have HH : Hid (Holds w a len zs) := hh
  clear hh
  go_enter Try.func12, Try.ntmps12
  go_wp2_with fail
  refine (skip25 a len cap i zs _ hm HH.out).mono ?_
  rintro e w' ⟨r, rfl, hr, rfl⟩
  go_wp2
  go_ret
  exact ⟨r, rfl, hr, rfl⟩

end Go.Proofs.Qxb6601697a
