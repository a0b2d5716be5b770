/-
  THE PLAIN LAW of the seat's two statements: no Go in sight. 'ws': a JSON space. 'Skips zs len i r': from place i on, r is the first place at which the list's first 'len' numbers end or hold no space; past the end it is i itself.
-/
namespace Go.Proofs.Qxb6601697a

/-- A JSON space: blank, tab, line feed, carriage return. -/
def ws (z : Int) : Bool := z == 32 || z == 9 || z == 10 || z == 13

/-- What holds at the head of each round of the skipping loop: k is reached from i over spaces alone. -/
structure Runs (zs : List Int) (len i k : Nat) : Prop where
  ge : i ≤ k
  past : len ≤ i → k = i
  le : i < len → k ≤ len
  run : ∀ j, i ≤ j → j < k → ws (zs.getD j 0) = true

/-- And what holds at its end: k is the list's end (or past it), or no space stands there. -/
structure Skips (zs : List Int) (len i r : Nat) : Prop where
  runs : Runs zs len i r
  stop : r < len → ws (zs.getD r 0) = false

theorem Runs.start (zs : List Int) (len i : Nat) : Runs zs len i i :=
  ⟨Nat.le_refl _, fun _ => rfl, fun h => Nat.le_of_lt h, fun j h1 h2 => by omega⟩

theorem Runs.next {zs : List Int} {len i k : Nat} (h : Runs zs len i k) (hk : k < len) (hs : ws (zs.getD k 0) = true) : Runs zs len i (k + 1) := by
  have g := h.ge
  refine ⟨by omega, fun hp => ?_, fun _ => hk, fun j h1 h2 => ?_⟩
  · omega
  · by_cases e : j = k
    · rw [e]; exact hs
    · exact h.run j h1 (by omega)

theorem Skips.uniq {zs : List Int} {len i r s : Nat} (h : Skips zs len i r) (g : Skips zs len i s) : r = s := by
  have key : ∀ a b : Nat, Skips zs len i a → Skips zs len i b → ¬ a < b := by
    intro a b ha hb hab
    have a1 := ha.runs.ge
    by_cases hi : len ≤ i
    · have e1 := ha.runs.past hi
      have e2 := hb.runs.past hi
      omega
    · have b1 := hb.runs.le (by omega)
      have t := hb.runs.run a a1 hab
      have f := ha.stop (by omega)
      exact absurd (t.symm.trans f) (by decide)
  have k1 := key r s h g
  have k2 := key s r g h
  omega

theorem Skips.self {zs : List Int} {len i r : Nat} (h : Skips zs len i r) : Skips zs len r r := ⟨Runs.start zs len r, h.stop⟩

theorem Skips.later {zs : List Int} {len i r : Nat} (h : Skips zs len i r) (hr : i < r) : Skips zs len (i + 1) r := by
  have g := h.runs.past
  have l := h.runs.le
  refine ⟨⟨hr, fun hp => ?_, fun _ => l (by omega), fun j h1 h2 => h.runs.run j (by omega) h2⟩, h.stop⟩
  by_cases hi : len ≤ i
  · have := g hi; omega
  · have := l (by omega); omega

theorem ws_of_32 : ws 32 = true := rfl
theorem ws_of_9 : ws 9 = true := rfl
theorem ws_of_10 : ws 10 = true := rfl
theorem ws_of_13 : ws 13 = true := rfl
theorem ws_of_none {z : Int} (h1 : z ≠ 32) (h2 : z ≠ 9) (h3 : z ≠ 10) (h4 : z ≠ 13) : ws z = false := by
  simp [ws, h1, h2, h3, h4]

end Go.Proofs.Qxb6601697a
