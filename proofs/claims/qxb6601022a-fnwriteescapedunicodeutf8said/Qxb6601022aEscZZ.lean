/-
  ZZWriteEscaped out of a contract of writeEscaped.
-/
import Derived.Test.Qxb6601022aEscBuf
set_option linter.unusedVariables false
set_option linter.unusedSimpArgs false
namespace Go.Proofs.Qxb6601022a.Esc
open Go.RowKit

/-- 'append' that leaves an element at least: the new value's shape written out. -/
theorem wpList_append_some {P : Program} {w : World} {ops : Array Oper} {rest : List Oper} {o : Oper} {a : Act} {Q : Exit → Act → World → Prop} (hgd : o.guard = none) (s x : Operand) (t : TypeId)
    (ho : o.op = .call { callee := .builtin .append, args := #[s, x], argTypes := #[t, t] })
    (base : Nat) (e : TypeId) (i : TypeInfo) (z : Value) (size bytes : Nat) (ht : P.underlying t = some (.slice e)) (hi : P.info? e = some i) (hz : i.zero = some z)
    (hsize : i.size = size) (hby : i.bytes = bytes) (hzs : z.cells.size = size) (hsz : 0 < size)
    (v : Value) (n : Nat) (xs : List Value) (hs : a.eval s = v) (hown : w.ownsRow base e size v n xs)
    (ad : Addr) (m c : Nat) (news : List Value) (hx : a.eval x = .slice (some ad) m c) (hl : news.length = m * size) (hnews : ∀ j u, news[j]? = some u → w.cell? (ad.add j) = some u) (h1 : ∀ u ∈ news, u.oneCell' = true)
    (h63 : n + m ≤ maxLen) (hbytes : (n + m) * bytes ≤ 140737488355328) (hbase : base ≤ w.heap.size) (hpos : 0 < n + m)
    (h : ∀ g cap w', w'.ownsRow base e size (.slice (some ⟨g, 0, none⟩) (n + m) cap) (n + m) (xs ++ news) → w.grownBy w' v.ownBlock → wpList P ops Q rest (a.put o.dst (.slice (some ⟨g, 0, none⟩) (n + m) cap)) w') : wpList P ops Q (o :: rest) a w := by
  refine wpList_append_own w hgd s x t ho base e i z size bytes ht hi hz hsize hby hzs hsz v n xs hs hown ad m c news hx hl hnews h1 h63 hbytes hbase ?_
  intro v' w' h2 h3 _
  rcases h2.2 with ⟨_, h0⟩ | ⟨g, cap, cur, rfl, _⟩
  · omega
  · exact h g cap w' h2 h3
theorem cells_new (w : World) (cs : Array Value) (t : TypeId) (news : List Value) (h : cs.toList = news) : ∀ j u, news[j]? = some u → (w.alloc (.cells cs t)).cell? ((⟨w.heap.size, 0, none⟩ : Addr).add j) = some u := by
  intro j u hj
  subst h
  have e : ((⟨w.heap.size, 0, none⟩ : Addr).add j) = ⟨w.heap.size, j, none⟩ := by simp only [Addr.add]; split <;> simp_all
  rw [e, cell_of_row (w.alloc (.cells cs t)) w.heap.size j cs t (0, 0) (heap_alloc_new w _)]
  simpa using hj
theorem below_append {B : Nat} {w0 w w' : World} {e : TypeId} {size : Nat} {v : Value} {n : Nat} {xs : List Value} (hb : Below B w0 w) (hB : B ≤ w.heap.size) (ho : w.ownsRow B e size v n xs) (hg : w.grownBy w' v.ownBlock) : Below B w0 w' :=
  hb.grown hg hB (fun k hk => (ho.lt k hk).1)
/-- string(b), b a row of the call's own that holds the bytes l. -/
theorem conv_own {w : World} {base g m cap : Nat} {l : List UInt8} (h : w.ownsRow base 5 1 (.slice (some ⟨g, 0, none⟩) m cap) m (Lib.byteCells l)) :
    (convert 31 9 (.slice (some ⟨g, 0, none⟩) m cap)).run Try.prog w = .ok (.string ⟨l.toArray⟩) w := by
  have hl : l.length = m := by have := h.1; rw [Lib.byteCells_length] at this; omega
  subst hl
  refine run_convert_bytes_back w 31 9 5 ⟨g, 0, none⟩ cap l Try.underlying31 Try.underlying5 Try.underlying9 (fun j hj => ?_)
  have e : ((⟨g, 0, none⟩ : Addr).add j) = ⟨g, j, none⟩ := by simp only [Addr.add]; split <;> simp_all
  rw [e, h.cellAt j (by omega)]
  simp [Lib.byteCells, hj]

/-- writeEscaped, from whatever builder that holds nothing, writes out and answers st. -/
def WE (s : ByteArray) (f : Fl) (out : List UInt8) (st : Bool) : Prop :=
  ∀ (w : World) (B b E : Nat), St w B b E f [] → Calls Try.prog 31 #[.pointer (some ⟨b, 0, none⟩), .string s, .pointer (some ⟨E, 0, none⟩)] w fun e w' => e = .returned (.bool st) ∧ St w' B b E f out ∧ Below B w w'

set_option maxHeartbeats 1000000 in
theorem zz_any (s : ByteArray) (f : Fl) (out : List UInt8) (st : Bool) (w : World) (hl : Look w f.r f.has f.d) (hwe : WE s f out st) :
    Calls Try.prog 22 #[.string s, .map f.r, .bool f.oc, .bool f.zo, .bool f.cc, .bool f.sc, .bool f.ne] w fun e w' => e = .returned (.tuple #[.string ⟨out.toArray⟩, .bool st]) ∧ Below w.heap.size w w' ∧ Look w' f.r f.has f.d := by
  have hst : St ((w.alloc (.cells #[.pointer none, .slice none 0 0] 63)).alloc (.cells f.cells 67)) w.heap.size w.heap.size (w.heap.size + 1) f [] := by
    refine ⟨(Lib.IsBuilderF.of (Lib.fresh_isBuilder 63 5 w)).alloc _, ?_, hl.block (fun m hm => ?_), by simp; omega, by omega, fun m hm => ?_⟩
    · have := heap_alloc_new (w.alloc (.cells #[.pointer none, .slice none 0 0] 63)) (.cells f.cells 67)
      simpa using this
    · have := hl.lt m hm
      rw [Below.heap_alloc _ _ _ (by simp; omega), Below.heap_alloc _ _ _ this]
    · have := hl.lt m hm; omega
  have HWE := hide (hwe _ _ _ _ hst)
  have HL := hide hl
  clear hwe hl hst
  go_enter Try.func22, Try.ntmps22
  go_wp2_with fail
  refine HWE.out.mono ?_
  rintro e w2 ⟨rfl, hst2, hb2⟩
  have HS := hide hst2
  have HB := hide (((((Below.refl w.heap.size w).alloc (Nat.le_refl _) _).alloc (by simp) _)).trans hb2)
  clear hst2 hb2
  go_wp2_with fail
  refine (Try.Builder_String_any_k w.heap.size w.heap.size out _ HS.out.bld HS.out.bs).mono ?_
  rintro e w3 ⟨rfl, _, hb3, _⟩
  have HB3 := hide (HB.out.trans hb3)
  clear hb3
  go_wp2
  go_ret2
  exact ⟨rfl, HB3.out, HL.out.block (fun m hm => HB3.out.block m (HL.out.lt m hm))⟩

end Go.Proofs.Qxb6601022a.Esc
