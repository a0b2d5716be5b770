/-
  THE WALKS of 'zzPB1Copy' (function 11): a fresh slice that holds the same bytes, nothing old written; of 'zzPB1IsWS' (13): 'ws'; of the two bounds on the length (10, 14).
-/
import Derived.Test.Qxb6601697aSkip
import Derived.WalkKit
import Derived.WalkSpells
import Derived.Below
namespace Go.Proofs.Qxb6601697a
open Go.RowKit

theorem Try.info5 : (Try.prog.info? 5).map (fun i => (i.zero, i.size, i.bytes)) = some (some (.int .u8 0), 1, 1) := by kernel_rfl

/-- nil stays nil. -/
theorem copy11_nil (w : World) :
    Calls Try.prog 11 #[.slice none 0 0] w fun e w' => e = .returned (.slice none 0 0) ∧ w' = w := by
  have q22 : ∀ (w : World) (a : Option Addr) (n c n' c' : Nat), (binOp .eql 22 (.slice a n c) (.slice none n' c')).run Try.prog w = .ok (.bool a.isNone) w := fun w a n c n' c' => Lib.run_eql_slice_nil w _ _ a n c n' c' Try.underlying22
  go_enter Try.func11, Try.ntmps11
  go_wp2
  go_ret
  exact ⟨rfl, rfl⟩

/-- An empty slice that is not nil. -/
theorem copy11_empty (x : Addr) (cap : Nat) (w : World) :
    Calls Try.prog 11 #[.slice (some x) 0 cap] w fun e w' => e = .returned (.slice (some ⟨w.heap.size, 0, none⟩) 0 0) ∧ Below w.heap.size w w' := by
  have q22 : ∀ (w : World) (a : Option Addr) (n c n' c' : Nat), (binOp .eql 22 (.slice a n c) (.slice none n' c')).run Try.prog w = .ok (.bool a.isNone) w := fun w a n c n' c' => Lib.run_eql_slice_nil w _ _ a n c n' c' Try.underlying22
  obtain ⟨i0, hi, hz0, hz1, hz2⟩ := info_parts Try.info5
  go_enter Try.func11, Try.ntmps11
  go_wp2_with (at_make; refine wpList_make_full _ rfl _ _ 22 rfl w.heap.size 5 i0 (.int .u8 0) 1 Try.underlying22 hi hz0 hz1 .i64 .i64 _ _ 0 rfl rfl rfl rfl (by omega) (by unfold maxLen; omega) (Nat.le_refl _) ?_; intro w0 hown0 hgrow0)
  refine wp_loop_rounds 1 ?_
  rw [rounds_succ]
  go_wp2
  go_ret
  exact ⟨rfl, (Below.refl _ w).grown hgrow0 (Nat.le_refl _) (by simp)⟩

/-- What is owned behind k rounds: the first k cells are the bytes. -/
def Filled (wr : World) (B len k : Nat) (zs : List Int) : Prop :=
  ∃ xs : List Value, wr.ownsRow B 5 1 (.slice (some ⟨B, 0, none⟩) len len) len xs ∧ ∀ j, j < k → xs[j]? = some (.int .u8 (zs.getD j 0))

theorem Filled.spot {wr : World} {B len k : Nat} {zs : List Int} (h : Filled wr B len k zs) (hk : k < len) : ∃ u, wr.cell? ⟨B, k, none⟩ = some u := by
  obtain ⟨xs, ho, _⟩ := h
  have hl : xs.length = len * 1 := ho.1
  exact ⟨xs[k]'(by omega), by rw [ho.cellAt k (by omega)]; simp⟩

theorem Filled.free {wr : World} {B len k : Nat} {zs : List Int} (h : Filled wr B len k zs) : wr.frozen? ⟨B, k, none⟩ = false := by
  obtain ⟨xs, ho, _⟩ := h
  exact ho.frozenAt k

theorem Filled.next {wr : World} {B len k : Nat} {zs : List Int} (h : Filled wr B len k zs) (hk : k < len) : Filled (wr.setCell ⟨B, k, none⟩ (.int .u8 (zs.getD k 0))) B len (k + 1) zs := by
  obtain ⟨xs, ho, hx⟩ := h
  have hl : xs.length = len * 1 := ho.1
  refine ⟨_, (ho.stored k _).1, fun j hj => ?_⟩
  by_cases e : j = k
  · subst e
    rw [List.getElem?_set_self (by omega)]
  · rw [List.getElem?_set_ne (by omega)]
    exact hx j (by omega)

theorem Filled.holds {wr : World} {B len : Nat} {zs : List Int} (h : Filled wr B len len zs) : Holds wr (some ⟨B, 0, none⟩) len zs := by
  obtain ⟨xs, ho, hx⟩ := h
  intro _
  refine ⟨B, 0, rfl, fun j hj => ?_⟩
  rw [Nat.zero_add, ho.cellAt j (by omega)]
  exact hx j hj

set_option maxHeartbeats 400000 in
/-- A slice that holds something. -/
theorem copy11_full (b off len cap : Nat) (zs : List Int) (w : World) (hm : len ≤ 1048576)
    (hb : b < w.heap.size) (hc : ∀ j, j < len → w.cell? ⟨b, off + j, none⟩ = some (.int .u8 (zs.getD j 0))) :
    Calls Try.prog 11 #[.slice (some ⟨b, off, none⟩) len cap] w fun e w' => e = .returned (.slice (some ⟨w.heap.size, 0, none⟩) len len) ∧ Filled w' w.heap.size len len zs ∧ Below w.heap.size w w' := by
  have q22 : ∀ (w : World) (a : Option Addr) (n c n' c' : Nat), (binOp .eql 22 (.slice a n c) (.slice none n' c')).run Try.prog w = .ok (.bool a.isNone) w := fun w a n c n' c' => Lib.run_eql_slice_nil w _ _ a n c n' c' Try.underlying22
  obtain ⟨i0, hi, hz0, hz1, hz2⟩ := info_parts Try.info5
  have HC : Hid (∀ j, j < len → w.cell? ⟨b, off + j, none⟩ = some (.int .u8 (zs.getD j 0))) := hc
  clear hc
  go_enter Try.func11, Try.ntmps11
  go_wp2_with (at_make; refine wpList_make_full _ rfl _ _ 22 rfl w.heap.size 5 i0 (.int .u8 0) 1 Try.underlying22 hi hz0 hz1 .i64 .i64 _ _ len rfl rfl rfl rfl (by rw [hz2]; omega) (by unfold maxLen; omega) (Nat.le_refl _) ?_; intro w0 hown0 hgrow0)
  have hF0 : Filled w0 w.heap.size len 0 zs := ⟨_, hown0, fun j hj => by omega⟩
  have hb0 : Below w.heap.size w w0 := (Below.refl _ w).grown hgrow0 (Nat.le_refl _) (by simp)
  clear hown0 hgrow0
  go_loopw [12] (fun v wr => ∃ k : Nat, k ≤ len ∧ v = .int .i64 k ∧ Filled wr w.heap.size len k zs ∧ Below w.heap.size w wr) (fun v _ => len - (intOf v).toNat)
  case atStart => exact ⟨0, Nat.zero_le _, rfl, hF0, hb0⟩
  case round =>
    obtain ⟨k, hk, rfl, hF, hbw⟩ := hrel
    clear hF0 hb0
    by_cases hlt : k < len
    · have hck : wr.cell? ⟨b, off + k, none⟩ = some (.int .u8 (zs.getD k 0)) := (hbw.cell (p := ⟨b, off + k, none⟩) hb).trans (HC.out k hlt)
      obtain ⟨u, hu⟩ := hF.spot hlt
      have hfz := hF.free
      go_wp2
      go_roundw
      case rel => exact ⟨k + 1, hlt, by go_num, hF.next hlt, hbw.setCell (Nat.le_refl _) _⟩
      case measure => simp [intOf]; omega
    · obtain rfl : k = len := by omega
      go_wp2
      go_ret
      exact ⟨rfl, hF, hbw⟩

/-- 'zzPB1Copy' at every slice: a slice as long that holds the same bytes; nothing old is written. -/
theorem copy11 (a : Option Addr) (len cap : Nat) (zs : List Int) (w : World) (hm : len ≤ 1048576) (hn : a = none → len = 0 ∧ cap = 0) (hh : Holds w a len zs) :
    Calls Try.prog 11 #[.slice a len cap] w fun e w' => ∃ (a' : Option Addr) (c' : Nat), e = .returned (.slice a' len c') ∧ Holds w' a' len zs ∧ Below w.heap.size w w' := by
  cases a with
  | none =>
    obtain ⟨rfl, rfl⟩ := hn rfl
    exact (copy11_nil w).mono fun e w' ⟨he, hw⟩ => ⟨none, 0, he, fun h => absurd h (by omega), by rw [hw]; exact Below.refl _ _⟩
  | some x =>
    by_cases h0 : len = 0
    · subst h0
      exact (copy11_empty x cap w).mono fun e w' ⟨he, hw⟩ => ⟨_, 0, he, fun h => absurd h (by omega), hw⟩
    · obtain ⟨b, off, ha, hc⟩ := hh (by omega)
      have hb : b < w.heap.size := World.block_lt_of_cell? w ⟨b, off + 0, none⟩ (hc 0 (by omega))
      rw [ha]
      exact (copy11_full b off len cap zs w hm hb hc).mono fun e w' ⟨he, hf, hw⟩ => ⟨_, len, he, hf.holds, hw⟩

/-- 'zzPB1IsWS' answers 'ws'. -/
theorem isws13 (z : Int) (w : World) : Calls Try.prog 13 #[.int .u8 z] w fun e w' => e = .returned (.bool (ws z)) ∧ w' = w := by
  by_cases h1 : z = 32
  · subst h1
    go_enter Try.func13, Try.ntmps13
    go_wp2
    go_ret
    exact ⟨rfl, rfl⟩
  by_cases h2 : z = 9
  · subst h2
    go_enter Try.func13, Try.ntmps13
    go_wp2
    go_ret
    exact ⟨rfl, rfl⟩
  by_cases h3 : z = 10
  · subst h3
    go_enter Try.func13, Try.ntmps13
    go_wp2
    go_ret
    exact ⟨rfl, rfl⟩
  by_cases h4 : z = 13
  · subst h4
    go_enter Try.func13, Try.ntmps13
    go_wp2
    go_ret
    exact ⟨rfl, rfl⟩
  rw [ws_of_none h1 h2 h3 h4]
  have e1 : (z == 32) = false := by simpa using h1
  have e2 : (z == 9) = false := by simpa using h2
  have e3 : (z == 10) = false := by simpa using h3
  have e4 : (z == 13) = false := by simpa using h4
  clear h1 h2 h3 h4
  go_enter Try.func13, Try.ntmps13
  go_wp2
  go_ret
  exact ⟨rfl, rfl⟩

theorem isws13_yes (z : Int) (w : World) (h : ws z = true) : Calls Try.prog 13 #[.int .u8 z] w fun e w' => e = .returned (.bool true) ∧ w' = w := by
  rw [← h]; exact isws13 z w
theorem isws13_no (z : Int) (w : World) (h : ws z = false) : Calls Try.prog 13 #[.int .u8 z] w fun e w' => e = .returned (.bool false) ∧ w' = w := by
  rw [← h]; exact isws13 z w

/-- The two bounds on the length. -/
theorem bytes14_yes (a : Option Addr) (len cap : Nat) (i : Int) (w : World) (hm : len ≤ 1048576) : Calls Try.prog 14 #[.slice a len cap, .int .i64 i] w fun e w' => e = .returned (.bool true) ∧ w' = w := by
  go_enter Try.func14, Try.ntmps14
  go_wp2
  go_ret
  exact ⟨rfl, rfl⟩
theorem bytes14_no (a : Option Addr) (len cap : Nat) (i : Int) (w : World) (hm : 1048576 < len) : Calls Try.prog 14 #[.slice a len cap, .int .i64 i] w fun e w' => e = .returned (.bool false) ∧ w' = w := by
  go_enter Try.func14, Try.ntmps14
  go_wp2
  go_ret
  exact ⟨rfl, rfl⟩
theorem bytes10_yes (a : Option Addr) (len cap : Nat) (i : Int) (w : World) (hm : len ≤ 1048576) : Calls Try.prog 10 #[.slice a len cap, .int .i64 i] w fun e w' => e = .returned (.bool true) ∧ w' = w := by
  go_enter Try.func10, Try.ntmps10
  go_wp2
  go_ret
  exact ⟨rfl, rfl⟩
theorem bytes10_no (a : Option Addr) (len cap : Nat) (i : Int) (w : World) (hm : 1048576 < len) : Calls Try.prog 10 #[.slice a len cap, .int .i64 i] w fun e w' => e = .returned (.bool false) ∧ w' = w := by
  go_enter Try.func10, Try.ntmps10
  go_wp2
  go_ret
  exact ⟨rfl, rfl⟩

end Go.Proofs.Qxb6601697a
