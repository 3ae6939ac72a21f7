/-
  Two rows of bytes of the call's own, side by side; appendUTF8 over them.
-/
import Derived.Test.Qxb6601022aEscUni
import Derived.Test.Qxb6601022aLawOct
import Derived.Maps.AppendAt
set_option linter.unusedVariables false
set_option linter.unusedSimpArgs false
namespace Go.Proofs.Qxb6601022a.Esc
open Go.RowKit

/-- e holds l, v holds m, in rows of the call's own that are not one. -/
structure Two (w : World) (B : Nat) (e : Value) (l : List UInt8) (v : Value) (m : List UInt8) : Prop where
  a : w.ownsRow B 5 1 e l.length (Lib.byteCells l)
  b : w.ownsRow B 5 1 v m.length (Lib.byteCells m)
  ne : e.ownBlock = none ∨ e.ownBlock ≠ v.ownBlock
  bs : B ≤ w.heap.size
theorem Two.nil (w : World) : Two w w.heap.size (.slice none 0 0) [] (.slice none 0 0) [] := ⟨World.ownsRow_nil _ _ _ _, World.ownsRow_nil _ _ _ _, .inl rfl, Nat.le_refl _⟩
theorem Two.swap {w : World} {B : Nat} {e v : Value} {l m : List UInt8} (h : Two w B e l v m) : Two w B v m e l := by
  refine ⟨h.b, h.a, ?_, h.bs⟩
  rcases h.ne with h0 | h0
  · rw [h0]
    cases v.ownBlock
    · exact .inl rfl
    · exact .inr (by simp)
  · exact .inr (fun e => h0 e.symm)
theorem Two.alloc {w : World} {B : Nat} {e v : Value} {l m : List UInt8} (h : Two w B e l v m) (o : Obj) : Two (w.alloc o) B e l v m :=
  ⟨h.a.alloc o, h.b.alloc o, h.ne, by have := h.bs; simp; omega⟩
/-- append onto the first. -/
theorem wpList_append_two {w : World} {ops : Array Oper} {rest : List Oper} {o : Oper} {a : Act} {Q : Exit → Act → World → Prop} (hgd : o.guard = none) (s x : Operand)
    (ho : o.op = .call { callee := .builtin .append, args := #[s, x], argTypes := #[31, 31] })
    (B : Nat) (e v : Value) (l m : List UInt8) (hs : a.eval s = e) (hT : Two w B e l v m)
    (ad : Addr) (c : Nat) (xs : List UInt8) (k : Nat) (hk : k = xs.length) (news : List Value) (hx : a.eval x = .slice (some ad) k c) (hbc : news = Lib.byteCells xs) (hnews : ∀ j u, news[j]? = some u → w.cell? (ad.add j) = some u)
    (hlen : l.length + k ≤ 4000000)
    (h : ∀ e' w', Two w' B e' (l ++ xs) v m → Below B w w' → wpList Try.prog ops Q rest (a.put o.dst e') w') : wpList Try.prog ops Q (o :: rest) a w := by
  obtain ⟨i5, hi5, z50, z51, z52⟩ := info_parts info5
  subst hk
  refine wpList_append_own_at w hgd s x 31 ho B 5 i5 _ 1 1 Try.underlying31 hi5 z50 z51 z52 rfl (by decide) e l.length _ hs hT.a ad xs.length c news hx (by rw [hbc, Lib.byteCells_length]; omega) hnews (fun u hu => ?_) (by unfold maxLen; omega) (by omega) hT.bs ?_
  · rw [hbc] at hu
    simp only [Lib.byteCells, List.mem_map] at hu
    obtain ⟨y, _, rfl⟩ := hu
    rfl
  · intro v' w' h1 h2 _ h4
    have hlt : ∀ k, v.ownBlock = some k → k < w.heap.size := fun k hk => (hT.b.lt k hk).2
    refine h v' w' ⟨?_, hT.b.kept h2 ?_, ?_, Nat.le_trans hT.bs h2.size⟩ ((Below.refl _ _).grown h2 hT.bs (fun k hk => (hT.a.lt k hk).1))
    · rw [hbc, ← Lib.byteCells_append] at h1
      rw [List.length_append]; exact h1
    · rcases hT.swap.ne with h0 | h0
      · exact .inl h0
      · exact .inr h0
    · rcases h4 with h4 | h4
      · rw [h4]; exact hT.ne
      · rw [h4]
        refine .inr (fun e => ?_)
        have := hlt _ e.symm
        omega
/-- string(b), of such a row, nil or not. -/
theorem conv_own_any {w : World} {base : Nat} {v : Value} {l : List UInt8} (h : w.ownsRow base 5 1 v l.length (Lib.byteCells l)) :
    (convert 31 9 v).run Try.prog w = .ok (.string ⟨l.toArray⟩) w := by
  rcases h.2 with ⟨rfl, h0⟩ | ⟨g, cap, cur, rfl, _⟩
  · obtain rfl : l = [] := List.eq_nil_of_length_eq_zero h0
    rw [run_convert_bytes_string w 31 9 5 none 0 0 Try.underlying31 Try.underlying5 Try.underlying9]
    rfl
  · exact conv_own h

theorem wraps_u32 (n : Int) (h₀ : 0 ≤ n) (h₁ : n < 2 ^ 32) : IntKind.u32.wrap n = n := by rw [IntKind.wrap_u32]; omega
theorem u32_and63 (x : Int) (h₀ : 0 ≤ x) (h₁ : x < 4294967296) : bits .and .u32 x 63 = x % 64 := bits_mask .u32 32 (by decide) wraps_u32 6 (by decide) x h₀ h₁
theorem u32_or128 (y : Int) (h₀ : 0 ≤ y) (h₁ : y < 64) : bits .or .u32 128 y = 128 + y := bits_join .u32 32 (by decide) wraps_u32 6 128 y (by decide) (by decide) (by decide) h₀ h₁ (by omega)
theorem u32_or192 (y : Int) (h₀ : 0 ≤ y) (h₁ : y < 32) : bits .or .u32 192 y = 192 + y := bits_join .u32 32 (by decide) wraps_u32 5 192 y (by decide) (by decide) (by decide) h₀ h₁ (by omega)
theorem u32_or224 (y : Int) (h₀ : 0 ≤ y) (h₁ : y < 16) : bits .or .u32 224 y = 224 + y := bits_join .u32 32 (by decide) wraps_u32 4 224 y (by decide) (by decide) (by decide) h₀ h₁ (by omega)
theorem u32_or240 (y : Int) (h₀ : 0 ≤ y) (h₁ : y < 8) : bits .or .u32 240 y = 240 + y := bits_join .u32 32 (by decide) wraps_u32 3 240 y (by decide) (by decide) (by decide) h₀ h₁ (by omega)

def AppPost (B : Nat) (l : List UInt8) (v : Value) (m : List UInt8) (w : World) (r : Ending) (w' : World) : Prop := ∃ e', r = .returned e' ∧ Two w' B e' l v m ∧ Below B w w'

set_option maxRecDepth 100000 in
set_option maxHeartbeats 2000000 in
theorem app1 (B : Nat) (p : Int) (e v : Value) (l m : List UInt8) (w : World) (hT : Two w B e l v m) (hp : p < 4294967296) (hp0 : 0 ≤ p) (hl : l.length ≤ 3000000) (g3 : p < 128) :
    Calls Try.prog 27 #[e, .int .u32 p] w fun r w' => AppPost B (l ++ Lib.encodeRune p) v m w r w' := by
  have hz : Lib.encodeRuneZ p = [p] := Lib.encodeRuneZ_one hp0 (by omega)
  have hc : Lib.byteCells (Lib.encodeRune p) = [.int .u8 p] := by rw [Lib.byteCells_encodeRune]; unfold Lib.runeCells; rw [hz]; rfl
  have hn : 1 = (Lib.encodeRune p).length := by unfold Lib.encodeRune; rw [hz]; rfl
  have HC := hide hc
  have HN := hide hn
  have HT := hide hT
  clear hz hc hn hT
  go_enter Try.func27, Try.ntmps27
  go_wp2_with (at_builtin; refine wpList_append_two rfl (.tmp 18) (.tmp 21) rfl B e v l m rfl (HT.out.alloc _) ⟨w.heap.size, 0, none⟩ 1 (Lib.encodeRune p) 1 HN.out [.int .u8 p] rfl HC.out.symm (cells_new _ _ _ _ rfl) (by omega) ?_; intro e' w' hT' hB')
  have HT2 := hide hT'
  have HB2 := hide hB'
  clear hT' hB'
  go_wp2
  go_ret
  exact ⟨_, rfl, HT2.out, ((Below.refl B w).alloc HT.out.bs _).trans HB2.out⟩

set_option maxRecDepth 100000 in
set_option maxHeartbeats 2000000 in
theorem app2 (B : Nat) (p : Int) (e v : Value) (l m : List UInt8) (w : World) (hT : Two w B e l v m) (hp : p < 4294967296) (hp0 : 0 ≤ p) (hl : l.length ≤ 3000000) (g2 : 128 ≤ p) (g3 : p < 2048) :
    Calls Try.prog 27 #[e, .int .u32 p] w fun r w' => AppPost B (l ++ Lib.encodeRune p) v m w r w' := by
  have hz : Lib.encodeRuneZ p = [(192 + p / 64), (128 + p % 64)] := Lib.encodeRuneZ_two g2 (by omega)
  have hc : Lib.byteCells (Lib.encodeRune p) = [.int .u8 (192 + p / 64), .int .u8 (128 + p % 64)] := by rw [Lib.byteCells_encodeRune]; unfold Lib.runeCells; rw [hz]; rfl
  have hn : 2 = (Lib.encodeRune p).length := by unfold Lib.encodeRune; rw [hz]; rfl
  have HC := hide hc
  have HN := hide hn
  have HT := hide hT
  clear hz hc hn hT
  have e1 := u32_and63 p (by omega) (by omega)
  have e2 := u32_or128 (p % 64) (by omega) (by omega)
  have e3 := u32_or192 (p / 64) (by omega) (by omega)
  go_enter Try.func27, Try.ntmps27
  go_wp2_with (at_builtin; refine wpList_append_two rfl (.tmp 26) (.tmp 35) rfl B e v l m rfl (HT.out.alloc _) ⟨w.heap.size, 0, none⟩ 2 (Lib.encodeRune p) 2 HN.out [.int .u8 (192 + p / 64), .int .u8 (128 + p % 64)] rfl HC.out.symm (cells_new _ _ _ _ rfl) (by omega) ?_; intro e' w' hT' hB')
  have HT2 := hide hT'
  have HB2 := hide hB'
  clear hT' hB'
  go_wp2
  go_ret
  exact ⟨_, rfl, HT2.out, ((Below.refl B w).alloc HT.out.bs _).trans HB2.out⟩

set_option maxRecDepth 100000 in
set_option maxHeartbeats 2000000 in
theorem app3 (B : Nat) (p : Int) (e v : Value) (l m : List UInt8) (w : World) (hT : Two w B e l v m) (hp : p < 4294967296) (hp0 : 0 ≤ p) (hl : l.length ≤ 3000000) (g2 : 2048 ≤ p) (g3 : p < 55296) :
    Calls Try.prog 27 #[e, .int .u32 p] w fun r w' => AppPost B (l ++ Lib.encodeRune p) v m w r w' := by
  have hz : Lib.encodeRuneZ p = [(224 + p / 4096), (128 + p / 64 % 64), (128 + p % 64)] := Lib.encodeRuneZ_three (.inl ⟨g2, g3⟩)
  have hc : Lib.byteCells (Lib.encodeRune p) = [.int .u8 (224 + p / 4096), .int .u8 (128 + p / 64 % 64), .int .u8 (128 + p % 64)] := by rw [Lib.byteCells_encodeRune]; unfold Lib.runeCells; rw [hz]; rfl
  have hn : 3 = (Lib.encodeRune p).length := by unfold Lib.encodeRune; rw [hz]; rfl
  have HC := hide hc
  have HN := hide hn
  have HT := hide hT
  clear hz hc hn hT
  have e1 := u32_and63 p (by omega) (by omega)
  have e2 := u32_or128 (p % 64) (by omega) (by omega)
  have e4 := u32_and63 (p / 64) (by omega) (by omega)
  have e5 := u32_or128 (p / 64 % 64) (by omega) (by omega)
  have e3 := u32_or224 (p / 4096) (by omega) (by omega)
  go_enter Try.func27, Try.ntmps27
  go_wp2_with (at_builtin; refine wpList_append_two rfl (.tmp 40) (.tmp 54) rfl B e v l m rfl (HT.out.alloc _) ⟨w.heap.size, 0, none⟩ 3 (Lib.encodeRune p) 3 HN.out [.int .u8 (224 + p / 4096), .int .u8 (128 + p / 64 % 64), .int .u8 (128 + p % 64)] rfl HC.out.symm (cells_new _ _ _ _ rfl) (by omega) ?_; intro e' w' hT' hB')
  have HT2 := hide hT'
  have HB2 := hide hB'
  clear hT' hB'
  go_wp2
  go_ret
  exact ⟨_, rfl, HT2.out, ((Below.refl B w).alloc HT.out.bs _).trans HB2.out⟩

set_option maxRecDepth 100000 in
set_option maxHeartbeats 2000000 in
theorem app3h (B : Nat) (p : Int) (e v : Value) (l m : List UInt8) (w : World) (hT : Two w B e l v m) (hp : p < 4294967296) (hp0 : 0 ≤ p) (hl : l.length ≤ 3000000) (g2 : 57343 < p) (g3 : p < 65536) :
    Calls Try.prog 27 #[e, .int .u32 p] w fun r w' => AppPost B (l ++ Lib.encodeRune p) v m w r w' := by
  have hz : Lib.encodeRuneZ p = [(224 + p / 4096), (128 + p / 64 % 64), (128 + p % 64)] := Lib.encodeRuneZ_three (.inr ⟨g2, by omega⟩)
  have hc : Lib.byteCells (Lib.encodeRune p) = [.int .u8 (224 + p / 4096), .int .u8 (128 + p / 64 % 64), .int .u8 (128 + p % 64)] := by rw [Lib.byteCells_encodeRune]; unfold Lib.runeCells; rw [hz]; rfl
  have hn : 3 = (Lib.encodeRune p).length := by unfold Lib.encodeRune; rw [hz]; rfl
  have HC := hide hc
  have HN := hide hn
  have HT := hide hT
  clear hz hc hn hT
  have e1 := u32_and63 p (by omega) (by omega)
  have e2 := u32_or128 (p % 64) (by omega) (by omega)
  have e4 := u32_and63 (p / 64) (by omega) (by omega)
  have e5 := u32_or128 (p / 64 % 64) (by omega) (by omega)
  have e3 := u32_or224 (p / 4096) (by omega) (by omega)
  go_enter Try.func27, Try.ntmps27
  go_wp2_with (at_builtin; refine wpList_append_two rfl (.tmp 40) (.tmp 54) rfl B e v l m rfl (HT.out.alloc _) ⟨w.heap.size, 0, none⟩ 3 (Lib.encodeRune p) 3 HN.out [.int .u8 (224 + p / 4096), .int .u8 (128 + p / 64 % 64), .int .u8 (128 + p % 64)] rfl HC.out.symm (cells_new _ _ _ _ rfl) (by omega) ?_; intro e' w' hT' hB')
  have HT2 := hide hT'
  have HB2 := hide hB'
  clear hT' hB'
  go_wp2
  go_ret
  exact ⟨_, rfl, HT2.out, ((Below.refl B w).alloc HT.out.bs _).trans HB2.out⟩

set_option maxRecDepth 100000 in
set_option maxHeartbeats 2000000 in
theorem app4 (B : Nat) (p : Int) (e v : Value) (l m : List UInt8) (w : World) (hT : Two w B e l v m) (hp : p < 4294967296) (hp0 : 0 ≤ p) (hl : l.length ≤ 3000000) (g2 : 65536 ≤ p) (g3 : p ≤ 1114111) :
    Calls Try.prog 27 #[e, .int .u32 p] w fun r w' => AppPost B (l ++ Lib.encodeRune p) v m w r w' := by
  have hz : Lib.encodeRuneZ p = [(240 + p / 262144), (128 + p / 4096 % 64), (128 + p / 64 % 64), (128 + p % 64)] := Lib.encodeRuneZ_four g2 g3
  have hc : Lib.byteCells (Lib.encodeRune p) = [.int .u8 (240 + p / 262144), .int .u8 (128 + p / 4096 % 64), .int .u8 (128 + p / 64 % 64), .int .u8 (128 + p % 64)] := by rw [Lib.byteCells_encodeRune]; unfold Lib.runeCells; rw [hz]; rfl
  have hn : 4 = (Lib.encodeRune p).length := by unfold Lib.encodeRune; rw [hz]; rfl
  have HC := hide hc
  have HN := hide hn
  have HT := hide hT
  clear hz hc hn hT
  have e1 := u32_and63 p (by omega) (by omega)
  have e2 := u32_or128 (p % 64) (by omega) (by omega)
  have e4 := u32_and63 (p / 64) (by omega) (by omega)
  have e5 := u32_or128 (p / 64 % 64) (by omega) (by omega)
  have e6 := u32_and63 (p / 4096) (by omega) (by omega)
  have e7 := u32_or128 (p / 4096 % 64) (by omega) (by omega)
  have e3 := u32_or240 (p / 262144) (by omega) (by omega)
  go_enter Try.func27, Try.ntmps27
  go_wp2_with (at_builtin; refine wpList_append_two rfl (.tmp 56) (.tmp 75) rfl B e v l m rfl (HT.out.alloc _) ⟨w.heap.size, 0, none⟩ 4 (Lib.encodeRune p) 4 HN.out [.int .u8 (240 + p / 262144), .int .u8 (128 + p / 4096 % 64), .int .u8 (128 + p / 64 % 64), .int .u8 (128 + p % 64)] rfl HC.out.symm (cells_new _ _ _ _ rfl) (by omega) ?_; intro e' w' hT' hB')
  have HT2 := hide hT'
  have HB2 := hide hB'
  clear hT' hB'
  go_wp2
  go_ret
  exact ⟨_, rfl, HT2.out, ((Below.refl B w).alloc HT.out.bs _).trans HB2.out⟩

set_option maxRecDepth 100000 in
set_option maxHeartbeats 2000000 in
theorem appS (B : Nat) (p : Int) (e v : Value) (l m : List UInt8) (w : World) (hT : Two w B e l v m) (hp : p < 4294967296) (hp0 : 0 ≤ p) (hl : l.length ≤ 3000000) (g2 : 55296 ≤ p) (g3 : p ≤ 57343) :
    Calls Try.prog 27 #[e, .int .u32 p] w fun r w' => AppPost B (l ++ Lib.encodeRune p) v m w r w' := by
  have hz : Lib.encodeRuneZ p = [239, 191, 189] := Lib.encodeRuneZ_bad (.inr (.inl ⟨g2, g3⟩))
  have hc : Lib.byteCells (Lib.encodeRune p) = [.int .u8 239, .int .u8 191, .int .u8 189] := by rw [Lib.byteCells_encodeRune]; unfold Lib.runeCells; rw [hz]; rfl
  have hn : 3 = (Lib.encodeRune p).length := by unfold Lib.encodeRune; rw [hz]; rfl
  have HC := hide hc
  have HN := hide hn
  have HT := hide hT
  clear hz hc hn hT
  have e1 : bits .or .u32 224 15 = 239 := by decide
  have e2 : bits .and .u32 1023 63 = 63 := by decide
  have e3 : bits .or .u32 128 63 = 191 := by decide
  have e4 : bits .and .u32 65533 63 = 61 := by decide
  have e5 : bits .or .u32 128 61 = 189 := by decide
  go_enter Try.func27, Try.ntmps27
  go_wp2_with (at_builtin; refine wpList_append_two rfl (.tmp 40) (.tmp 54) rfl B e v l m rfl (HT.out.alloc _) ⟨w.heap.size, 0, none⟩ 3 (Lib.encodeRune p) 3 HN.out [.int .u8 239, .int .u8 191, .int .u8 189] rfl HC.out.symm (cells_new _ _ _ _ rfl) (by omega) ?_; intro e' w' hT' hB')
  have HT2 := hide hT'
  have HB2 := hide hB'
  clear hT' hB'
  go_wp2
  go_ret
  exact ⟨_, rfl, HT2.out, ((Below.refl B w).alloc HT.out.bs _).trans HB2.out⟩

set_option maxRecDepth 100000 in
set_option maxHeartbeats 2000000 in
theorem appB (B : Nat) (p : Int) (e v : Value) (l m : List UInt8) (w : World) (hT : Two w B e l v m) (hp : p < 4294967296) (hp0 : 0 ≤ p) (hl : l.length ≤ 3000000) (g2 : 1114111 < p) :
    Calls Try.prog 27 #[e, .int .u32 p] w fun r w' => AppPost B (l ++ Lib.encodeRune p) v m w r w' := by
  have hz : Lib.encodeRuneZ p = [239, 191, 189] := Lib.encodeRuneZ_bad (.inr (.inr g2))
  have hc : Lib.byteCells (Lib.encodeRune p) = [.int .u8 239, .int .u8 191, .int .u8 189] := by rw [Lib.byteCells_encodeRune]; unfold Lib.runeCells; rw [hz]; rfl
  have hn : 3 = (Lib.encodeRune p).length := by unfold Lib.encodeRune; rw [hz]; rfl
  have HC := hide hc
  have HN := hide hn
  have HT := hide hT
  clear hz hc hn hT
  have e1 : bits .or .u32 224 15 = 239 := by decide
  have e2 : bits .and .u32 1023 63 = 63 := by decide
  have e3 : bits .or .u32 128 63 = 191 := by decide
  have e4 : bits .and .u32 65533 63 = 61 := by decide
  have e5 : bits .or .u32 128 61 = 189 := by decide
  go_enter Try.func27, Try.ntmps27
  go_wp2_with (at_builtin; refine wpList_append_two rfl (.tmp 40) (.tmp 54) rfl B e v l m rfl (HT.out.alloc _) ⟨w.heap.size, 0, none⟩ 3 (Lib.encodeRune p) 3 HN.out [.int .u8 239, .int .u8 191, .int .u8 189] rfl HC.out.symm (cells_new _ _ _ _ rfl) (by omega) ?_; intro e' w' hT' hB')
  have HT2 := hide hT'
  have HB2 := hide hB'
  clear hT' hB'
  go_wp2
  go_ret
  exact ⟨_, rfl, HT2.out, ((Below.refl B w).alloc HT.out.bs _).trans HB2.out⟩

theorem appendUTF8_any (B : Nat) (p : Int) (e v : Value) (l m : List UInt8) (w : World) (hT : Two w B e l v m) (hp : p < 4294967296) (hp0 : 0 ≤ p) (hl : l.length ≤ 3000000) :
    Calls Try.prog 27 #[e, .int .u32 p] w fun r w' => AppPost B (l ++ Lib.encodeRune p) v m w r w' := by
  by_cases h1 : p < 128
  · exact app1 B p e v l m w hT hp hp0 hl h1
  · by_cases h2 : p < 2048
    · exact app2 B p e v l m w hT hp hp0 hl (by omega) h2
    · by_cases h3 : p < 55296
      · exact app3 B p e v l m w hT hp hp0 hl (by omega) h3
      · by_cases h4 : p ≤ 57343
        · exact appS B p e v l m w hT hp hp0 hl (by omega) h4
        · by_cases h5 : p < 65536
          · exact app3h B p e v l m w hT hp hp0 hl (by omega) h5
          · by_cases h6 : p ≤ 1114111
            · exact app4 B p e v l m w hT hp hp0 hl (by omega) h6
            · exact appB B p e v l m w hT hp hp0 hl (by omega)

end Go.Proofs.Qxb6601022a.Esc
