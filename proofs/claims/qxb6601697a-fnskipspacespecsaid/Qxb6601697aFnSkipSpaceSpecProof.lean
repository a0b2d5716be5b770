/-
  THE PROOF OF 'Rows.FnSkipSpaceSpecSaid'. The frame ('lifted', 'over', 'proved') is the given shell's, laid by program at this function's number and types; the walk is filled in. The plain law: Qxb6601697aPlain; the callees' walks: Qxb6601697aSkip, Qxb6601697aCopy.
-/
import Derived.Test.Qxb6601697aRows
import Derived.Test.Qxb6601697aCopy
import Derived.WalkKit
import Derived.ProofKit
import Derived.OpenShut
import Derived.ShutString
import Derived.ChangeOld
import Derived.Below
namespace Go.Proofs.Qxb6601697a.fnSkipSpaceSpec
open Go.ChangeShapes Go.WideShapes Go.ChangeAt Go.RowKit
open Go.ChangeMaps (open_string shut_string)
set_option linter.unusedVariables false

theorem own : ownKnob Try.prog.godebug = none := by kernel_rfl
theorem laidOut : laidOutB Try.prog = true := by kernel_rfl

/-- WHAT THE WALK IS TOLD OF A SLICE OF INTEGERS THAT CAME IN: it is nil; or it leads to a row of 'cap' cells, the numbers 'zs' (the first 'len' are its elements, the rest its spare room), each fitting its kind. -/
def IsRow (k : IntKind) (w : World) (a : Option Addr) (len cap : Nat) (zs : List Int) : Prop :=
  (a = none ∧ len = 0 ∧ cap = 0 ∧ zs = []) ∨
  ∃ x, a = some x ∧ len ≤ cap ∧ cap ≤ maxLen ∧ zs.length = cap ∧ (∀ i, i < zs.length → w.cell? (x.add i) = some (.int k (zs.getD i 0))) ∧ ∀ n ∈ zs, (Lit.int k n).wf = true

/-- The row, as the walks ask it. -/
theorem row_parts {w : World} {a : Option Addr} {len cap : Nat} {zs : List Int} (h : IsRow .u8 w a len cap zs) : (a = none → len = 0 ∧ cap = 0) ∧ Holds w a len zs := by
  rcases h with ⟨rfl, rfl, rfl, rfl⟩ | ⟨x, rfl, hlc, _, hz, hc, _⟩
  · exact ⟨fun _ => ⟨rfl, rfl⟩, fun h => absurd h (by omega)⟩
  · refine ⟨fun h => (by simp at h), fun h0 => ?_⟩
    obtain ⟨b, off, spot⟩ := x
    have hspot : spot = none := by simpa [Addr.add] using World.cell?_spot (hc 0 (by omega))
    subst hspot
    exact ⟨b, off, rfl, fun j hj => by rw [← add_plain]; exact hc j (by omega)⟩

/-- At or past the end: the place itself. -/
theorem walk_past (a0 : Option Addr) (len0 cap0 n : Nat) (z0 : List Int) (w : World) (hm' : len0 ≤ 1048576) (hn : a0 = none → len0 = 0 ∧ cap0 = 0) (hh : Holds w a0 len0 z0) (hin : ¬ n < len0) :
    Calls Try.prog 3 #[.slice a0 len0 cap0, .int .i64 (n : Int)] w fun e w' => e = .returned (.bool true) ∧ Below w.heap.size w w' := by
  have HN : Hid (a0 = none → len0 = 0 ∧ cap0 = 0) := hn
  have HH : Hid (Holds w a0 len0 z0) := hh
  clear hn hh
  go_enter Try.func3, Try.ntmps3
  go_wp2_with fail
  refine (bytes10_yes a0 len0 cap0 (n : Int) _ hm').mono ?_
  rintro e w' ⟨rfl, rfl⟩
  go_wp2_with fail
  refine (copy11 a0 len0 cap0 z0 _ hm' HN.out HH.out).mono ?_
  rintro e w1 ⟨a', c', rfl, hh1, hb1⟩
  have HH1 : Hid (Holds w1 a' len0 z0) := hh1
  clear hh1
  go_wp2_with fail
  refine (skip12 a' len0 c' n z0 _ (by omega) HH1.out).mono ?_
  rintro e w2 ⟨r, rfl, hr, rfl⟩
  obtain rfl : n = r := (hr.runs.past (by omega)).symm
  clear hr
  go_wp2
  go_ret
  exact ⟨rfl, hb1⟩

set_option maxHeartbeats 400000 in
/-- From a place inside. -/
theorem walk_in (a0 : Option Addr) (len0 cap0 n : Nat) (z0 : List Int) (w : World) (hm' : len0 ≤ 1048576) (hn : a0 = none → len0 = 0 ∧ cap0 = 0) (hh : Holds w a0 len0 z0) (hin : n < len0) :
    Calls Try.prog 3 #[.slice a0 len0 cap0, .int .i64 (n : Int)] w fun e w' => e = .returned (.bool true) ∧ Below w.heap.size w w' := by
  have HN : Hid (a0 = none → len0 = 0 ∧ cap0 = 0) := hn
  have HH : Hid (Holds w a0 len0 z0) := hh
  clear hn hh
  have ht1 : decide ((1048576 : Int) < (len0 : Int)) = false := decide_eq_false (by omega)
  have ht2 : decide ((n : Int) < 0) = false := decide_eq_false (by omega)
  have ht3 : decide (len0 ≤ n) = false := decide_eq_false (by omega)
  go_enter Try.func3, Try.ntmps3
  go_wp2_with fail
  refine (bytes10_yes a0 len0 cap0 (n : Int) _ hm').mono ?_
  rintro e w' ⟨rfl, rfl⟩
  go_wp2_with fail
  refine (copy11 a0 len0 cap0 z0 _ hm' HN.out HH.out).mono ?_
  rintro e w1 ⟨a', c', rfl, hh1, hb1⟩
  have hex : ∃ b off, a' = some ⟨b, off, none⟩ ∧ ∀ j, j < len0 → w1.cell? ⟨b, off + j, none⟩ = some (.int .u8 (z0.getD j 0)) := hh1 (by omega)
  have HH1 : Hid (Holds w1 a' len0 z0) := hh1
  clear hh1
  obtain ⟨b, off, ha, hc⟩ := hex
  have HC : Hid (∀ j, j < len0 → w1.cell? ⟨b, off + j, none⟩ = some (.int .u8 (z0.getD j 0))) := hc
  clear hc
  rw [ha] at HH1
  rw [ha]
  clear ha
  go_wp2_with fail
  refine (skip12 (some ⟨b, off, none⟩) len0 c' n z0 _ (by omega) HH1.out).mono ?_
  rintro e w2 ⟨r, rfl, hr, rfl⟩
  have hge := hr.runs.ge
  have hle := hr.runs.le hin
  have hd1 : decide (r < n) = false := decide_eq_false (by omega)
  have hd2 : decide (len0 < r) = false := decide_eq_false (by omega)
  go_wp2
  go_loop [6] (fun v => ∃ k : Nat, n ≤ k ∧ k ≤ r ∧ v = .int .i64 k) (fun v => r - (intOf v).toNat)
  case atStart => exact ⟨n, Nat.le_refl _, hge, rfl⟩
  case round =>
    obtain ⟨k, hk1, hk2, rfl⟩ := hrel
    by_cases hlt : k < r
    · have hck := HC.out k (by omega)
      have hwk := hr.runs.run k hk1 hlt
      obtain ⟨z, hz⟩ : ∃ z, z = z0.getD k 0 := ⟨_, rfl⟩
      rw [← hz] at hck hwk
      have HZ : Hid (ws z = true) := hwk
      clear hz hwk
      go_wp2_with fail
      refine (isws13_yes z _ HZ.out).mono ?_
      rintro e w3 ⟨rfl, rfl⟩
      go_wp2
      go_round
      case rel => exact ⟨k + 1, by omega, hlt, by go_num⟩
      case measure => simp [intOf]; omega
    · obtain rfl : k = r := by omega
      by_cases hend : k = len0
      · have he : ((k : Int) == (len0 : Int)) = true := beq_iff_eq.2 (by omega)
        go_wp2
        go_ret
        exact ⟨rfl, hb1⟩
      · have he : ((k : Int) == (len0 : Int)) = false := by simp; omega
        have hck := HC.out k (by omega)
        have hwk := hr.stop (by omega)
        obtain ⟨z, hz⟩ : ∃ z, z = z0.getD k 0 := ⟨_, rfl⟩
        rw [← hz] at hck hwk
        have HZ : Hid (ws z = false) := hwk
        clear hz hwk
        go_wp2_with fail
        refine (isws13_no z _ HZ.out).mono ?_
        rintro e w3 ⟨rfl, rfl⟩
        go_wp2
        go_ret
        exact ⟨rfl, hb1⟩

/-! ### STEP 1: THE WALK: the Go text returns true, AND WRITES NOTHING THAT WAS THERE: 'Below w.heap.size w w'' (Derived/Below.lean: '.refl', '.alloc', '.drew', '.setCell' at a new block, '.trans'). Open each 'IsRow' by 'rcases' AHEAD of 'go_enter'; part every test ahead of the walk. -/
theorem walk (a0 : Option Addr) (len0 cap0 : Nat) (z0 : List Int) (a1 : Int) (w : World) (w0 : IsRow .u8 w a0 len0 cap0 z0) (w1 : (Lit.int .i64 a1).wf = true) :
    Calls Try.prog 3 #[.slice a0 len0 cap0, .int .i64 a1] w fun e w' => e = .returned (.bool true) ∧ Below w.heap.size w w' := by
  obtain ⟨hn, hh⟩ := row_parts w0
  clear w0 w1
  by_cases hm : 1048576 < len0
  · go_enter Try.func3, Try.ntmps3
    go_wp2_with fail
    refine (bytes10_no a0 len0 cap0 a1 _ hm).mono ?_
    rintro e w' ⟨rfl, rfl⟩
    go_wp2
    go_ret
    exact ⟨rfl, Below.refl _ _⟩
  have hm' : len0 ≤ 1048576 := by omega
  by_cases hneg : a1 < 0
  · go_enter Try.func3, Try.ntmps3
    go_wp2_with fail
    refine (bytes10_yes a0 len0 cap0 a1 _ hm').mono ?_
    rintro e w' ⟨rfl, rfl⟩
    go_wp2
    go_ret
    exact ⟨rfl, Below.refl _ _⟩
  obtain ⟨n, rfl⟩ := Int.eq_ofNat_of_zero_le (show 0 ≤ a1 by omega)
  by_cases hin : n < len0
  · exact walk_in a0 len0 cap0 n z0 w hm' hn hh hin
  · exact walk_past a0 len0 cap0 n z0 w hm' hn hh hin

/-! ### THE ROW's STEP: WRITTEN OUT: LEAVE IT -/
set_option maxRecDepth 100000 in
theorem lifted (os : Os) (started : os.Started) (H : Type) (enc : TypeId × Value → H) :
    ReturnsInHanded {} Try.checked os 3 .any (Rows.fnSkipSpaceSpecSpec.pre6 enc Try.prog Try.f3 Rows.fnSkipSpaceSpecRow.domain false) (Rows.fnSkipSpaceSpecSpec.post enc Try.prog Try.f3 false true false false) := by
  refine returnsInHanded_of_change (C := Try.checked) own started (by kernel_rfl) Try.func3
    (ChangeSpec.witness6 (enc := enc) (C := Try.checked) false ⟨#[], #[.slice none 0 0, .int .i64 0], []⟩ 8 (by kernel_rfl) (by kernel_rfl) (by kernel_rfl) (by kernel_rfl)) ?_
  intro W base args ds gs before hval0 hW hcnd _
  have hval : ∀ (j : Nat) t v, Try.f3.params[j]? = some t → args[j]? = some v → Value.okWide Try.prog W .any base t v := hval0
  have hW' := hW
  obtain ⟨p, q, hA0, hV, rfl, hfz, hnd⟩ := hW
  have hA : DataW.TrodAll enc Try.prog W 0 (fun _ => true) true Try.f3.params.toList args.toList ds p := hA0
  rw [Try.params3] at hA hval
  obtain ⟨v0, vs0, d0, ds0, p0, q0, hargs, rfl, rfl, h0, r0⟩ := trodAll_cons hA
  obtain ⟨v1, vs1, d1, ds1, p1, q1, rfl, rfl, rfl, h1, r1⟩ := trodAll_cons r0
  obtain ⟨rfl, rfl, rfl⟩ := trodAll_nil r1
  obtain rfl : args = #[v0, v1] := by cases args; simp_all
  obtain ⟨rfl, rfl⟩ := trodVars_none hV
  obtain ⟨a0, len0, cap0, rfl⟩ := okWide_slice Try.underlying22 (hval 0 22 v0 rfl rfl)
  have k0 := h0
  have lt0 : ∀ x ∈ p0, x.block < W.heap.size := by obtain ⟨m, hm⟩ := k0; exact DataW.trod_lt m _ _ _ hm
  obtain ⟨z0, w0⟩ : ∃ zs, IsRow .u8 W a0 len0 cap0 zs := by
    obtain ⟨fuel, hf⟩ := h0
    rcases open_ints Try.underlying22 Try.underlying5 (by kernel_rfl) hf with ⟨hcs, _⟩ | ⟨x, l, c, zs, hcs, _, hl, hm, hz, _, hcell, hwz⟩
    · simp [Value.cells] at hcs
      obtain ⟨rfl, rfl, rfl⟩ := hcs
      exact ⟨[], .inl ⟨rfl, rfl, rfl, rfl⟩⟩
    · simp [Value.cells] at hcs
      obtain ⟨rfl, rfl, rfl⟩ := hcs
      exact ⟨zs, .inr ⟨_, rfl, hl, hm, by simpa using hz, hcell, hwz⟩⟩
  obtain ⟨a1, rfl, rfl, rfl, w1⟩ := open_int Try.underlying3 (hval 1 3 v1 rfl rfl) h1
  clear hA0 hval0
  refine (walk a0 len0 cap0 z0 a1 W w0 w1).mono fun e W' ⟨he, bel⟩ => ?_
  subst he
  exact ⟨_, rfl, _, _, _, [], _, [], hW', trodAll_mk1 (shut_bool Try.underlying4 _), (trodAll_cons_mk (Below.trod laidOut (by kernel_rfl) (of_decide_eq_true (by kernel_rfl)) k0 bel lt0) (trodAll_cons_mk (shut_int Try.underlying3 w1) trodAll_mk0)), rfl, bel.frame _, fun h => by cases h⟩

theorem over : Rows.fnSkipSpaceSpecRow.holds Try.pinned (OpenSpec.ofChange Rows.fnSkipSpaceSpecSpec) :=
  OpenClaim.holds_of_wide 3 Try.f3 rfl rfl rfl rfl rfl rfl rfl ⟨rfl, rfl, rfl, rfl, rfl⟩ rfl rfl rfl rfl rfl (by kernel_rfl) Try.func3 (by kernel_rfl)
    (of_decide_eq_true (by kernel_rfl)) (by unfold Func.isWrapper; first | (rw [if_pos (by decide +kernel)]; kernel_rfl) | (rw [if_neg (by decide +kernel)]; exact ⟨rfl, rfl⟩))
    (fun os started H enc _ => lifted os started H enc)

/-- ████ THE STATEMENT ████ -/
theorem proved : Rows.FnSkipSpaceSpecSaid := over
#print axioms proved
end Go.Proofs.Qxb6601697a.fnSkipSpaceSpec
