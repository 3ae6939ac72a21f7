/-
  Plain words for the admit law: rows of integers in memory told by a function, and what admit answers. No Go text here.
-/
import Derived.WalkKit
namespace Go.Proofs.Qxb6600461a.Adm
open Go.RowKit

theorem hide {p : Prop} (h : p) : Hid p := h
theorem ret_bool {a b : Bool} (h : a = b) : Ending.returned (.bool a) = .returned (.bool b) := by rw [h]

/-- Block b holds the integers f 0, .., f (N-1), one every s cells; no cell of it is frozen. -/
structure Ints (w : World) (b s N : Nat) (f : Nat → Int) : Prop where
  cell : ∀ i, i < N → w.cell? ⟨b, i * s, none⟩ = some (.int .i64 (f i))
  free : ∀ o, w.frozen? ⟨b, o, none⟩ = false

theorem Ints.below {w w' : World} {b s N B : Nat} {f : Nat → Int} (h : Ints w b s N f) (hb : Below B w w') (hB : b < B) : Ints w' b s N f :=
  ⟨fun i hi => (hb.cell (p := ⟨b, i * s, none⟩) hB).trans (h.cell i hi), fun o => (hb.frozen (p := ⟨b, o, none⟩) hB).trans (h.free o)⟩
theorem Ints.congr {w : World} {b s N : Nat} {f g : Nat → Int} (h : Ints w b s N f) (e : ∀ i, i < N → f i = g i) : Ints w b s N g :=
  ⟨fun i hi => by rw [h.cell i hi, e i hi], h.free⟩
theorem Ints.set {w : World} {b s N : Nat} {f : Nat → Int} (h : Ints w b s N f) (hs : 0 < s) (k : Nat) (hk : k < N) (z : Int) :
    Ints (w.setCell ⟨b, k * s, none⟩ (.int .i64 z)) b s N (fun i => if i = k then z else f i) := by
  refine ⟨fun i hi => ?_, fun o => (World.frozen?_setCell _ _ _ _).trans (h.free o)⟩
  by_cases e : i = k
  · subst e
    rw [World.cell?_setCell_same _ _ _ (h.cell i hi), if_pos rfl]
  · rw [World.cell?_setCell_other _ _ _ _ (by intro hh; simp at hh; exact e ((Nat.mul_right_cancel hs hh).symm)), if_neg e, h.cell i hi]

/-- Does admit pass the first k buckets? -/
def okTo (n : Int) (f : Nat → Int) (k : Nat) : Bool := decide (1 ≤ n ∧ ∀ i, i < k → n ≤ f i)
theorem okTo_zero (n : Int) (f : Nat → Int) : okTo n f 0 = decide (1 ≤ n) := by simp [okTo]
theorem okTo_succ (n : Int) (f : Nat → Int) (k : Nat) : okTo n f (k + 1) = (okTo n f k && decide (n ≤ f k)) := by
  rw [Bool.eq_iff_iff]
  simp only [okTo, decide_eq_true_eq, Bool.and_eq_true]
  constructor
  · rintro ⟨h1, h2⟩; exact ⟨⟨h1, fun i hi => h2 i (by omega)⟩, h2 k (by omega)⟩
  · rintro ⟨⟨h1, h2⟩, h3⟩
    refine ⟨h1, fun i hi => ?_⟩
    by_cases e : i = k
    · subst e; exact h3
    · exact h2 i (by omega)
theorem okTo_true {n : Int} {f : Nat → Int} {k : Nat} (h : okTo n f k = true) : 1 ≤ n ∧ ∀ i, i < k → n ≤ f i := by simpa [okTo] using h

/-- The buckets behind a take of n from the first k. -/
def subTo (n : Int) (f : Nat → Int) (k : Nat) (i : Nat) : Int := if i < k then f i - n else f i
def aft (n : Int) (f : Nat → Int) (N : Nat) (take : Bool) (i : Nat) : Int := if okTo n f N && take then f i - n else f i
theorem subTo_step (n : Int) (f : Nat → Int) (j : Nat) {N : Nat} : ∀ i, i < N → (if i = j then f j - n else subTo n f j i) = subTo n f (j + 1) i := by
  intro i _
  unfold subTo
  by_cases e : i = j
  · subst e; simp
  · rw [if_neg e]
    by_cases h : i < j
    · rw [if_pos h, if_pos (by omega)]
    · rw [if_neg h, if_neg (by omega)]

theorem madeCells_at (z : Array Value) (n j : Nat) (hj : j < n) : (madeCells z n).toList[j]? = some (z[j % z.size]!) := by
  simp [madeCells, hj]
/-- A row that make has just laid, zero integers at the head of each element. -/
theorem Ints.made {w : World} {base e b s N : Nat} {z : Array Value} (h : w.ownsRow base e s (.slice (some ⟨b, 0, none⟩) N N) N (madeCells z (N * s)).toList) (hz : z.size = s) (hs : 0 < s) (h0 : z[0]! = .int .i64 0) : Ints w b s N (fun _ => 0) := by
  refine ⟨fun i hi => ?_, fun o => h.frozenAt o⟩
  have hlt : i * s < N * s := Nat.mul_lt_mul_of_pos_right hi hs
  rw [h.cellAt (i * s) hlt, madeCells_at _ _ _ hlt, hz, Nat.mul_mod_left, h0]
theorem Ints.at1 {w : World} {b N : Nat} {f : Nat → Int} (h : Ints w b 1 N f) (i : Nat) (hi : i < N) : w.cell? ⟨b, i, none⟩ = some (.int .i64 (f i)) := by
  have := h.cell i hi
  rwa [Nat.mul_one] at this
theorem Ints.set1 {w : World} {b N : Nat} {f : Nat → Int} (h : Ints w b 1 N f) (k : Nat) (hk : k < N) (z : Int) :
    Ints (w.setCell ⟨b, k, none⟩ (.int .i64 z)) b 1 N (fun i => if i = k then z else f i) := by
  have := h.set (by decide) k hk z
  rwa [Nat.mul_one] at this
/-- f on the first k, nought behind. -/
def fill (f : Nat → Int) (k : Nat) (i : Nat) : Int := if i < k then f i else 0
theorem fill_step (f : Nat → Int) (j : Nat) {N : Nat} : ∀ i, i < N → (if i = j then f j else fill f j i) = fill f (j + 1) i := by
  intro i _
  unfold fill
  by_cases e : i = j
  · subst e; simp
  · rw [if_neg e]
    by_cases h : i < j
    · rw [if_pos h, if_pos (by omega)]
    · rw [if_neg h, if_neg (by omega)]

/-- m is the least of f 0, .., f (k-1). -/
def Least (f : Nat → Int) (k : Nat) (m : Int) : Prop := (∃ i, i < k ∧ m = f i) ∧ ∀ i, i < k → m ≤ f i
theorem Least_one (f : Nat → Int) : Least f 1 (f 0) := ⟨⟨0, by omega, rfl⟩, fun i hi => by obtain rfl : i = 0 := (by omega); exact Int.le_refl _⟩
theorem Least_lt {f : Nat → Int} {k : Nat} {m : Int} (h : Least f k m) (hl : f k < m) : Least f (k + 1) (f k) := by
  refine ⟨⟨k, by omega, rfl⟩, fun i hi => ?_⟩
  by_cases e : i = k
  · subst e; omega
  · have := h.2 i (by omega); omega
theorem Least_ge {f : Nat → Int} {k : Nat} {m : Int} (h : Least f k m) (hl : ¬ f k < m) : Least f (k + 1) m := by
  obtain ⟨⟨i, hi, rfl⟩, h2⟩ := h
  refine ⟨⟨i, by omega, rfl⟩, fun j hj => ?_⟩
  by_cases e : j = k
  · subst e; omega
  · exact h2 j (by omega)
theorem Least_ok {f : Nat → Int} {k : Nat} {m n : Int} (h : Least f k m) (hn : 1 ≤ n) : okTo n f k = decide (n ≤ m) := by
  obtain ⟨⟨i, hi, rfl⟩, h2⟩ := h
  rw [Bool.eq_iff_iff]
  simp only [okTo, decide_eq_true_eq]
  constructor
  · rintro ⟨_, h3⟩; exact h3 i hi
  · intro h3; exact ⟨hn, fun j hj => Int.le_trans h3 (h2 j hj)⟩
theorem aft_yes {n : Int} {f : Nat → Int} {N : Nat} (h : okTo n f N = true) (i : Nat) : aft n f N true i = f i - n := by simp [aft, h]
theorem aft_no {n : Int} {f : Nat → Int} {N : Nat} {t : Bool} (h : (okTo n f N && t) = false) (i : Nat) : aft n f N t i = f i := by simp [aft, h]

end Go.Proofs.Qxb6600461a.Adm
