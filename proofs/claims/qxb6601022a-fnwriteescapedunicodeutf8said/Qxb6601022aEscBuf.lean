/-
  The builder beside the table of escapes, and the writers' contracts over both.
-/
import Derived.Test.Qxb6601022aShelf
import Derived.Test.Qxb6601022aEscMap
set_option linter.unusedVariables false
set_option linter.unusedSimpArgs false
namespace Go.Proofs.Qxb6601022a.Esc
open Go.RowKit

/-- The fields of an escapes. -/
structure Fl where
  r : Option Nat
  has : Nat → Bool
  d : Nat → Nat
  oc : Bool
  zo : Bool
  cc : Bool
  sc : Bool
  ne : Bool
def Fl.cells (f : Fl) : Array Value := #[.map f.r, .bool f.oc, .bool f.zo, .bool f.cc, .bool f.sc, .bool f.ne]

/-- Block b is a builder that holds acc; block E is the escapes f. -/
structure St (w : World) (B b E : Nat) (f : Fl) (acc : List UInt8) : Prop where
  bld : Lib.IsBuilderF 63 5 B b (Lib.byteCells acc) w
  env : w.heap[E]? = some (.cells f.cells 67 (0, 0))
  lk : Look w f.r f.has f.d
  bs : B ≤ w.heap.size
  ne : E ≠ b
  nm : ∀ m, f.r = some m → m ≠ b

theorem St.cell {w : World} {B b E : Nat} {f : Fl} {acc : List UInt8} (h : St w B b E f acc) (j : Nat) : w.cell? ⟨E, j, none⟩ = f.cells[j]? := cell_of_row w E j _ 67 (0, 0) h.env
theorem St.wrote {w w' : World} {B b E : Nat} {f : Fl} {acc acc' : List UInt8} (h : St w B b E f acc) (hb : Lib.IsBuilderF 63 5 B b (Lib.byteCells acc') w') (hB : Below B w w') (hk : Lib.OthersKept 5 (some b) w w') : St w' B b E f acc' := by
  refine ⟨hb, hk E _ h.env (by simp [h.ne]) (fun c fz => by simp), h.lk.block (fun m hm => ?_), Nat.le_trans h.bs hB.size, h.ne, h.nm⟩
  rcases h.lk.2 with ⟨h0, _⟩ | ⟨m', n, D, h0, ho, _⟩
  · rw [h0] at hm; cases hm
  · rw [h0] at hm; cases hm
    obtain ⟨es, clock, hm1, _⟩ := ho
    rw [hm1]
    exact hk m _ hm1 (by have := h.nm m h0; simp [this]) (fun c fz => by simp)
theorem St.drew {w : World} {B b E : Nat} {f : Fl} {acc : List UInt8} (h : St w B b E f acc) : St w.drew B b E f acc := ⟨h.bld, h.env, h.lk.block (fun _ _ => rfl), h.bs, h.ne, h.nm⟩

theorem writeByte_any {B b E : Nat} {f : Fl} {acc : List UInt8} (c : Nat) (w : World) (h : St w B b E f acc) (hc : c < 256) (hl : acc.length ≤ 1000000) :
    Calls Try.prog 34 #[.pointer (some ⟨b, 0, none⟩), .int .u8 (c : Int)] w fun e w' => e = .returned .nilIface ∧ St w' B b E f (acc ++ [c.toUInt8]) ∧ Below B w w' := by
  refine (Try.Builder_WriteByte_k B b _ (c : Int) w h.bld (by rw [Lib.byteCells_length]; omega) h.bs).mono ?_
  rintro e w' ⟨rfl, h1, h2, h3⟩
  refine ⟨rfl, h.wrote ?_ h2 h3, h2⟩
  have e1 : Lib.byteCells (acc ++ [c.toUInt8]) = Lib.byteCells acc ++ [.int .u8 (c : Int)] := by
    rw [Lib.byteCells_append]
    have : (c.toUInt8).toNat = c := by simp [Nat.toUInt8, UInt8.toNat_ofNat, Nat.mod_eq_of_lt hc]
    simp [Lib.byteCells, this]
  rw [e1]
  exact Or.inr h1

theorem writeRune_any {B b E : Nat} {f : Fl} {acc : List UInt8} (r : Int) (w : World) (h : St w B b E f acc) (h0 : -2147483648 ≤ r) (h1 : r ≤ 2147483647) (hl : acc.length ≤ 1000000) :
    Calls Try.prog 37 #[.pointer (some ⟨b, 0, none⟩), .int .i32 r] w fun e w' => e = .returned (.tuple #[.int .i64 (Lib.runeCells r).length, .nilIface]) ∧ St w' B b E f (acc ++ Lib.encodeRune r) ∧ Below B w w' := by
  refine (Try.Builder_WriteRune_k B b _ r h0 h1 w h.bld (by rw [Lib.byteCells_length]; omega) h.bs).mono ?_
  rintro e w' ⟨rfl, h1, h2, h3⟩
  refine ⟨rfl, h.wrote ?_ h2 h3, h2⟩
  rw [Lib.byteCells_append, Lib.byteCells_encodeRune]
  exact Or.inr h1

end Go.Proofs.Qxb6601022a.Esc
