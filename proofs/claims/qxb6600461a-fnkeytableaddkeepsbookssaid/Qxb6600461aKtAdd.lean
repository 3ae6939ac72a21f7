/-
  The walk of (*keyTable).add.
-/
import Derived.Test.Qxb6600461aKtResize
import Derived.Deep.Cut
import Derived.Deep.CutRange
import Derived.Maps.AppendAt
set_option linter.unusedVariables false
set_option linter.unusedSimpArgs false
namespace Go.Proofs.Qxb6600461a.Kt
open Go.RowKit

theorem info9 : (Try.prog.info? 9).map (fun i => (i.zero, i.size, i.bytes)) = some (some (.string ByteArray.empty), 1, 16) := by kernel_rfl
theorem info50 : (Try.prog.info? 50).map (fun i => (i.zero, i.size, i.bytes)) = some (some (.agg #[.int .i64 0, .int .u64 0, .int .i64 0]), 3, 24) := by kernel_rfl
theorem info42 : (Try.prog.info? 42).map (fun i => (i.zero, i.size, i.bytes)) = some (some (.pointer none), 1, 8) := by kernel_rfl

/-- 'append' that leaves an element at least: the new value's shape written out. -/
theorem wpList_append_some {P : Program} {w : World} {ops : Array Oper} {rest : List Oper} {o : Oper} {a : Act} {Q : Exit → Act → World → Prop} (hgd : o.guard = none) (s x : Operand) (t : TypeId)
    (ho : o.op = .call { callee := .builtin .append, args := #[s, x], argTypes := #[t, t] })
    (base : Nat) (e : TypeId) (i : TypeInfo) (z : Value) (size bytes : Nat) (ht : P.underlying t = some (.slice e)) (hi : P.info? e = some i) (hz : i.zero = some z)
    (hsize : i.size = size) (hby : i.bytes = bytes) (hzs : z.cells.size = size) (hsz : 0 < size)
    (v : Value) (n : Nat) (xs : List Value) (hs : a.eval s = v) (hown : w.ownsRow base e size v n xs)
    (ad : Addr) (m c : Nat) (news : List Value) (hx : a.eval x = .slice (some ad) m c) (hl : news.length = m * size) (hnews : ∀ j u, news[j]? = some u → w.cell? (ad.add j) = some u) (h1 : ∀ u ∈ news, u.oneCell' = true)
    (h63 : n + m ≤ maxLen) (hbytes : (n + m) * bytes ≤ 140737488355328) (hbase : base ≤ w.heap.size) (hpos : 0 < n + m)
    (h : ∀ g cap w', w'.ownsRow base e size (.slice (some ⟨g, 0, none⟩) (n + m) cap) (n + m) (xs ++ news) → w.grownBy w' v.ownBlock → wpList P ops Q rest (a.put o.dst (.slice (some ⟨g, 0, none⟩) (n + m) cap)) w') : wpList P ops Q (o :: rest) a w := by
  refine wpList_append_own w hgd s x t ho base e i z size bytes ht hi hz hsize hby hzs hsz v n xs hs hown ad m c news hx hl hnews h1 h63 hbytes hbase ?_
  intro v' w' h2 h3 _
  rcases h2.2 with ⟨_, h0⟩ | ⟨g, cap, cur, rfl, _⟩
  · omega
  · exact h g cap w' h2 h3

theorem cells_new (w : World) (cs : Array Value) (t : TypeId) (news : List Value) (h : cs.toList = news) : ∀ j u, news[j]? = some u → (w.alloc (.cells cs t)).cell? ((⟨w.heap.size, 0, none⟩ : Addr).add j) = some u := by
  intro j u hj
  subst h
  have e : ((⟨w.heap.size, 0, none⟩ : Addr).add j) = ⟨w.heap.size, j, none⟩ := by simp only [Addr.add]; split <;> simp_all
  rw [e, cell_of_row (w.alloc (.cells cs t)) w.heap.size j cs t (0, 0) (heap_alloc_new w _)]
  simpa using hj

theorem KeepT.sub {es fs : List TypeId} {w w' : World} (h : KeepT es w w') (hs : ∀ e, e ∈ fs → e ∈ es) : KeepT fs w w' := fun k c e f hk he => h k c e f hk (hs e he)
theorem KeepT.alloc (es : List TypeId) (w : World) (o : Obj) : KeepT es w (w.alloc o) := KeepT.of_none (World.grownBy_alloc w o none)
theorem KeepT.append {es : List TypeId} {w w' : World} {base : Nat} {e : TypeId} {size : Nat} {v : Value} {n : Nat} {xs : List Value} (ho : w.ownsRow base e size v n xs) (hg : w.grownBy w' v.ownBlock) (he : e ∉ es) : KeepT es w w' := by
  rcases ho.2 with ⟨rfl, _⟩ | ⟨g, cap, cur, rfl, _, hh, _⟩
  · exact KeepT.of_none hg
  · exact KeepT.of_grown hg hh he
theorem Below.append {B : Nat} {w0 w w' : World} {e : TypeId} {size : Nat} {v : Value} {n : Nat} {xs : List Value} (hb : Below B w0 w) (hB : B ≤ w.heap.size) (ho : w.ownsRow B e size v n xs) (hg : w.grownBy w' v.ownBlock) : Below B w0 w' :=
  hb.grown hg hB (fun k hk => (ho.lt k hk).1)
theorem Slots.keep {es : List TypeId} {w w' : World} {S M : Nat} {H A : Nat → Nat} (h : Slots w S M H A) (k : KeepT es w w') (he : 62 ∈ es) : Slots w' S M H A := by
  obtain ⟨cs, hc, hv⟩ := h
  exact ⟨cs, (k S cs 62 (0, 0) hc he).trans hc, hv⟩
theorem Tab.keep {es : List TypeId} {w w' : World} {B T S M : Nat} {H A : Nat → Nat} {kv bv rv : Value} {own : Bool} (h : Tab w B T S M H A kv bv rv own) (k : KeepT es w w') (h0 : 60 ∈ es) (h2 : 62 ∈ es) : Tab w' B T S M H A kv bv rv own :=
  ⟨(k T _ 60 (0, 0) h.tb h0).trans h.tb, h.bt, h.bs, h.sl.keep k h2⟩
theorem Tab.lt {w : World} {B T S M : Nat} {H A : Nat → Nat} {kv bv rv : Value} {own : Bool} (h : Tab w B T S M H A kv bv rv own) : B ≤ w.heap.size := by have := lt_of_some h.tb; have := h.bt; omega
theorem Tab.set {w : World} {B T S M : Nat} {H A : Nat → Nat} {kv bv rv kv' bv' rv' : Value} {own : Bool} (h : Tab w B T S M H A kv bv rv own) (j : Nat) (v : Value) (e : (tabCells S M kv bv rv own).setIfInBounds j v = tabCells S M kv' bv' rv' own) :
    Tab (w.setCell ⟨T, j, none⟩ v) B T S M H A kv' bv' rv' own :=
  ⟨by rw [heap_setCell_same w T j _ 60 v h.tb, e], h.bt, h.bs, h.sl.block (heap_setCell_other w _ S v h.ne)⟩
theorem Tab.kset {w : World} {B T S M : Nat} {H A : Nat → Nat} {kv bv rv : Value} {own : Bool} (h : Tab w B T S M H A kv bv rv own) (j : Nat) (v : Value) {es : List TypeId} (he : 60 ∉ es) : KeepT es w (w.setCell ⟨T, j, none⟩ v) :=
  KeepT.of_grown (grown_set (World.grownBy.refl w _) j v) h.tb he

theorem Tab.drew {w : World} {B T S M : Nat} {H A : Nat → Nat} {kv bv rv : Value} {own : Bool} (h : Tab w B T S M H A kv bv rv own) : Tab w.drew B T S M H A kv bv rv own := ⟨h.tb, h.bt, h.bs, h.sl⟩

/-- The cells of m buckets that stand for none. -/
def bcells : Nat → List Value
  | 0 => []
  | m + 1 => bcells m ++ [.int .i64 (-1), .int .u64 0, .int .i64 0]
def rlen (own : Bool) (n : Nat) : Nat := if own then n else 0
/-- How many slots the index has behind one more key. -/
def grow (M n : Nat) : Nat := if 3 * M < 4 * (n + 1) then 2 * M else M

/-- The whole table: its index, its keys, its buckets, its rates. -/
structure KT (w : World) (B T S M : Nat) (H A : Nat → Nat) (ka ba ra : Option Addr) (kc bc rc : Nat) (own : Bool) (n nb nr : Nat) (ks : List Value) : Prop where
  tab : Tab w B T S M H A (.slice ka n kc) (.slice ba nb bc) (.slice ra nr rc) own
  kr : w.ownsRow B 9 1 (.slice ka n kc) n ks
  br : w.ownsRow B 50 3 (.slice ba nb bc) nb (bcells nb)
  rr : w.ownsRow B 42 1 (.slice ra nr rc) nr (List.replicate nr (.pointer none))

/-- A table of M slots that holds the n keys ks, whose hashes are hs, with 'per' buckets a key. -/
def Holds (w : World) (B T M n per : Nat) (own : Bool) (ks : List Value) (hs : Nat → Nat) : Prop :=
  ∃ S H A ka ba ra kc bc rc, KT w B T S M H A ka ba ra kc bc rc own n (n * per) (rlen own n) ks ∧ TI M n H A hs

set_option maxRecDepth 100000 in
set_option maxHeartbeats 1000000 in
theorem add_core (B T S M e n per : Nat) (H A hs : Nat → Nat) (ka ba ra : Option Addr) (kc bc rc : Nat) (own : Bool) (ks : List Value) (key : ByteArray) (nn : Int) (w : World)
    (hM : M = 2 ^ e) (hM2 : M ≤ 4096) (hn : n + 1 ≤ 1024) (hper : per = nn.toNat) (hnn : nn ≤ 65536) (hb : (n + 1) * per ≤ 65536) (hh : hs n < 18446744073709551616) (h34 : 4 * n ≤ 3 * M)
    (hk : KT w B T S M H A ka ba ra kc bc rc own n (n * per) (rlen own n) ks) (hI : TI M n H A hs) :
    Calls Try.prog 28 #[.pointer (some ⟨T, 0, none⟩), .string key, .int .u64 ((hs n : Nat) : Int), .int .i64 nn] w fun e w' => e = .returned (.int .i64 (n : Int)) ∧
      Holds w' B T (grow M n) (n + 1) per own (ks ++ [.string key]) hs ∧ Below B w w' := by
  obtain ⟨i9, hi9, z90, z91, z92⟩ := info_parts info9
  obtain ⟨i50, hi50, z500, z501, z502⟩ := info_parts info50
  obtain ⟨i42, hi42, z420, z421, z422⟩ := info_parts info42
  have hc0 : w.cell? ⟨T, 0, none⟩ = some (.slice (some ⟨S, 0, none⟩) M M) := hk.tab.cell 0
  have hc1 : w.cell? ⟨T, 1, none⟩ = some (.slice ka n kc) := hk.tab.cell 1
  have hMp : 0 < M := by rw [hM]; exact Nat.two_pow_pos e
  have HK := hide hk
  have HI := hide hI
  have HE := hide hM
  have HP := hide hper
  have HBd := hide hb
  clear hk hI hM hper hb
  go_enter Try.func28, Try.ntmps28
  go_wp2
  go_region
  go_upto_if 22 with fail
  go_cut [] from 9 (fun w1 => ∃ S' e' H' A', Hid (grow M n = 2 ^ e') ∧ Hid (KT w1 B T S' (grow M n) H' A' ka ba ra kc bc rc own n (n * per) (rlen own n) ks) ∧ Hid (TI (grow M n) n H' A' hs) ∧ Below B w w1)
  case first =>
    by_cases hg : 3 * M < 4 * (n + 1)
    · have hgi : decide (3 * (M : Int) < 4 * ((n : Int) + 1)) = true := by simp; omega
      have hgr : grow M n = 2 * M := by simp [grow, hg]
      have HG := hide hgr
      clear hgr
      go_wp2_with fail
      refine (resize_any B T S M e n H A hs _ _ _ own _ HE.out (by omega) (HK.out.tab.drew) HI.out (by omega)).mono ?_
      rintro e1 w2 ⟨rfl, ⟨S', H', A', ht, hi⟩, hbel, hkp⟩
      have hfin : Hid (KT w2 B T S' (grow M n) H' A' ka ba ra kc bc rc own n (n * per) (rlen own n) ks) := by
        rw [HG.out]
        exact ⟨ht, hkp.row (HK.out.kr.drew) (by decide), hkp.row (HK.out.br.drew) (by decide), hkp.row (HK.out.rr.drew) (by decide)⟩
      have hfin2 : Hid (TI (grow M n) n H' A' hs) := by rw [HG.out]; exact hi
      clear ht hi hkp
      have hbel2 : Below B w w2 := ((Below.refl B w).drew).trans hbel
      clear hbel
      go_wp2
      go_meet
      case rel => exact ⟨S', e + 1, H', A', (show _ = _ by rw [HG.out, HE.out, Nat.pow_succ, Nat.mul_comm]), hfin, hfin2, hbel2⟩
    · have hgi : decide (3 * (M : Int) < 4 * ((n : Int) + 1)) = false := by simp; omega
      have hgr : grow M n = M := by simp [grow, hg]
      have HG := hide hgr
      clear hgr
      go_wp2
      go_meet
      case rel =>
        rw [HG.out]
        exact ⟨S, e, H, A, HE.out, ⟨HK.out.tab.drew, HK.out.kr.drew, HK.out.br.drew, HK.out.rr.drew⟩, HI.out, (Below.refl _ _).drew⟩
  case rest =>
    obtain ⟨S', e', H', A', HE', HK', HI', hbel⟩ := hcut
    have hM' : 4 * (n + 1) ≤ 3 * grow M n ∧ grow M n ≤ 4096 := by
      unfold grow
      split <;> omega
    generalize hgm : grow M n = M' at *
    have HGM := hide hgm
    clear hgm
    clear HK HI hc0 hc1 HE h34 hM2 hMp
    have hc0 : wc.cell? ⟨T, 0, none⟩ = some (.slice (some ⟨S', 0, none⟩) M' M') := HK'.out.tab.cell 0
    have hc1 : wc.cell? ⟨T, 1, none⟩ = some (.slice ka n kc) := HK'.out.tab.cell 1
    have hfree : ∃ q, q < M' ∧ A' q = 0 := used_free A' M' (by rw [HI'.out.cnt]; omega)
    have HF := hide hfree
    clear hfree
    go_wp2_with fail
    rw [show ((hs n : Nat) : Int) % 4294967296 = ((hs n % 4294967296 : Nat) : Int) from by omega, show ((n : Int) + 1) = ((n + 1 : Nat) : Int) from by omega]
    refine (place_any T S' M' e' H' A' (hs n % 4294967296) (n + 1) _ HE'.out hM'.2 (Nat.mod_lt _ (by omega)) (by omega) hc0 HK'.out.tab.sl HF.out).mono ?_
    rintro e1 w2 ⟨rfl, ⟨d, hd, hd0, hdn, hS2⟩, hg2⟩
    have HI2 := hide (HI'.out.add hd hd0 hdn)
    have hkp : KeepT [60, 9, 50, 42] wc w2 := by
      obtain ⟨cs, hcs, _⟩ := HK'.out.tab.sl
      exact KeepT.of_grown hg2 hcs (by decide)
    have hbel2 : Below B w w2 := hbel.grown hg2 HK'.out.tab.lt (fun j hj => by cases hj; exact HK'.out.tab.bs)
    have hK2 : KT w2 B T S' M' (upd H' ((hs n % 4294967296 + d) % M') (hs n % 4294967296)) (upd A' ((hs n % 4294967296 + d) % M') (n + 1)) ka ba ra kc bc rc own n (n * per) (rlen own n) ks :=
      ⟨⟨(hkp T _ 60 (0, 0) HK'.out.tab.tb (by decide)).trans HK'.out.tab.tb, HK'.out.tab.bt, HK'.out.tab.bs, hS2⟩, hkp.row HK'.out.kr (by decide), hkp.row HK'.out.br (by decide), hkp.row HK'.out.rr (by decide)⟩
    clear hd hd0 hdn hS2 hg2 hkp hbel hc0 hc1 HI' HF
    generalize upd H' ((hs n % 4294967296 + d) % M') (hs n % 4294967296) = H2 at *
    generalize upd A' ((hs n % 4294967296 + d) % M') (n + 1) = A2 at *
    clear HK'
    have hc1 : w2.cell? ⟨T, 1, none⟩ = some (.slice ka n kc) := hK2.tab.cell 1
    have hf1 : w2.frozen? ⟨T, 1, none⟩ = false := hK2.tab.free 1
    have HK2 := hide hK2
    have HB2 := hide hbel2
    clear hK2 hbel2
    go_wp2_with (at_builtin; refine wpList_append_some rfl (.tmp 47) (.tmp 49) 29 rfl B 9 i9 _ 1 16 Try.underlying29 hi9 z90 z91 z92 rfl (by decide) (.slice ka n kc) n ks rfl (HK2.out.kr.alloc _) ⟨w2.heap.size, 0, none⟩ 1 1 [.string key] rfl rfl (cell_one_new _ _ _) (by simp [Value.oneCell']) (by unfold maxLen; omega) (by omega) (by have := HK2.out.tab.lt; simp; omega) (by omega) ?_; intro g3 cap3 w3 hown3 hg3; have hkp3 := (KeepT.alloc [60, 62, 50, 42] w2 _).trans (KeepT.append (HK2.out.kr.alloc _) hg3 (by decide)); have hc3 : w3.cell? ⟨T, 1, none⟩ = some (.slice ka n kc) := (HK2.out.tab.keep hkp3 (by decide) (by decide)).cell 1; have hf3 := (HK2.out.tab.keep hkp3 (by decide) (by decide)).free 1)
    have hT3 := HK2.out.tab.keep hkp3 (by decide) (by decide)
    have hbr3 := hkp3.row HK2.out.br (by decide)
    have hrr3 := hkp3.row HK2.out.rr (by decide)
    have hB3 : Below B w w3 := Below.append (HB2.out.alloc HK2.out.tab.lt _) (by have := HK2.out.tab.lt; simp; omega) (HK2.out.kr.alloc _) hg3
    have hk3 : KeepT [9, 50, 42] w3 (w3.setCell ⟨T, 1, none⟩ (.slice (some ⟨g3, 0, none⟩) (n + 1) cap3)) := hT3.kset 1 _ (by decide)
    have hK4 : KT (w3.setCell ⟨T, 1, none⟩ (.slice (some ⟨g3, 0, none⟩) (n + 1) cap3)) B T S' M' H2 A2 (some ⟨g3, 0, none⟩) ba ra cap3 bc rc own (n + 1) (n * per) (rlen own n) (ks ++ [.string key]) :=
      ⟨hT3.set 1 _ rfl, hk3.row hown3 (by decide), hk3.row hbr3 (by decide), hk3.row hrr3 (by decide)⟩
    have hB4 : Below B w (w3.setCell ⟨T, 1, none⟩ (.slice (some ⟨g3, 0, none⟩) (n + 1) cap3)) := hB3.setCell hT3.bt _
    clear hg3 hkp3 hc3 hf3 hT3 hbr3 hrr3 hB3 hk3 hown3 HK2 HB2 hc1 hf1
    generalize w3.setCell ⟨T, 1, none⟩ (.slice (some ⟨g3, 0, none⟩) (n + 1) cap3) = w4 at *
    clear w3
    have HK4 := hide hK4
    have HB4 := hide hB4
    clear hK4 hB4
    obtain ⟨q, hq⟩ : ∃ q, q = n * per := ⟨_, rfl⟩
    have hq2 : q + per ≤ 65536 := by have := HBd.out; rw [Nat.succ_mul, ← hq] at this; exact this
    have hper1 : ∀ k : Nat, (k : Int) < nn ↔ k < per := fun k => by rw [HP.out]; omega
    rw [← hq] at HK4
    have HQ := hide hq
    have HP1 := hide hper1
    clear hq hper1
    go_loopw [54] (fun i wr => ∃ (k : Nat) (ba' : Option Addr) (bc' : Nat), k ≤ per ∧ i = .int .i64 k ∧ Hid (KT wr B T S' M' H2 A2 (some ⟨g3, 0, none⟩) ba' ra cap3 bc' rc own (n + 1) (q + k) (rlen own n) (ks ++ [.string key])) ∧ Hid (Below B w wr)) (fun i _ => per - (intOf i).toNat)
    case atStart => exact ⟨0, ba, bc, Nat.zero_le _, rfl, HK4.out, HB4.out⟩
    case round =>
      obtain ⟨k, ba', bc', hk, rfl, HK, HB⟩ := hrel
      clear HK4 HB4
      by_cases hlt : k < per
      · have hki := (HP1.out k).2 hlt
        have hc2 : wr.cell? ⟨T, 2, none⟩ = some (.slice ba' (q + k) bc') := HK.out.tab.cell 2
        go_wp2_with (at_builtin; refine wpList_append_some rfl (.tmp 60) (.tmp 62) 58 rfl B 50 i50 _ 3 24 Try.underlying58 hi50 z500 z501 z502 rfl (by decide) (.slice ba' (q + k) bc') (q + k) (bcells (q + k)) rfl (HK.out.br.alloc _) ⟨wr.heap.size, 0, none⟩ 1 1 [.int .i64 (-1), .int .u64 0, .int .i64 0] rfl rfl (cells_new _ _ _ _ rfl) (by simp [Value.oneCell']) (by unfold maxLen; omega) (by omega) (by have := HK.out.tab.lt; simp; omega) (by omega) ?_; intro g5 cap5 w5 hown5 hg5; have hkp5 := (KeepT.alloc [60, 62, 9, 42] wr _).trans (KeepT.append (HK.out.br.alloc _) hg5 (by decide)); have hc5 : w5.cell? ⟨T, 2, none⟩ = some (.slice ba' (q + k) bc') := (HK.out.tab.keep hkp5 (by decide) (by decide)).cell 2; have hf5 := (HK.out.tab.keep hkp5 (by decide) (by decide)).free 2)
        have hT5 := HK.out.tab.keep hkp5 (by decide) (by decide)
        have hkr5 := hkp5.row HK.out.kr (by decide)
        have hrr5 := hkp5.row HK.out.rr (by decide)
        have hB5 : Below B w w5 := Below.append (HB.out.alloc HK.out.tab.lt _) (by have := HK.out.tab.lt; simp; omega) (HK.out.br.alloc _) hg5
        have hk5 : KeepT [9, 50, 42] w5 (w5.setCell ⟨T, 2, none⟩ (.slice (some ⟨g5, 0, none⟩) (q + k + 1) cap5)) := hT5.kset 2 _ (by decide)
        have hK6 : Hid (KT (w5.setCell ⟨T, 2, none⟩ (.slice (some ⟨g5, 0, none⟩) (q + k + 1) cap5)) B T S' M' H2 A2 (some ⟨g3, 0, none⟩) (some ⟨g5, 0, none⟩) ra cap3 cap5 rc own (n + 1) (q + (k + 1)) (rlen own n) (ks ++ [.string key])) :=
          ⟨hT5.set 2 _ rfl, hk5.row hkr5 (by decide), hk5.row hown5 (by decide), hk5.row hrr5 (by decide)⟩
        have hB6 : Hid (Below B w (w5.setCell ⟨T, 2, none⟩ (.slice (some ⟨g5, 0, none⟩) (q + k + 1) cap5))) := hB5.setCell hT5.bt _
        clear hg5 hkp5 hc5 hf5 hT5 hkr5 hrr5 hB5 hk5 hown5
        go_roundw
        case rel => exact ⟨k + 1, _, _, by omega, by go_num, hK6, hB6⟩
        case measure => simp [intOf]; omega
      · obtain rfl : k = per := by omega
        have hki : ¬ (k : Int) < nn := fun h => hlt ((HP1.out k).1 h)
        have hc4 : wr.cell? ⟨T, 4, none⟩ = some (.bool own) := HK.out.tab.cell 4
        have hc1 : wr.cell? ⟨T, 1, none⟩ = some (.slice (some ⟨g3, 0, none⟩) (n + 1) cap3) := HK.out.tab.cell 1
        have hqk : q + k = (n + 1) * k := by rw [Nat.succ_mul, HQ.out]
        have HQ2 := hide hqk
        clear hqk
        cases own
        · go_wp2
          go_ret
          refine ⟨rfl, ⟨S', H2, A2, some ⟨g3, 0, none⟩, ba', ra, cap3, bc', rc, ?_, ?_⟩, HB.out⟩
          · rw [HGM.out, ← HQ2.out]; exact HK.out
          · rw [HGM.out]; exact HI2.out
        · have hc3 : wr.cell? ⟨T, 3, none⟩ = some (.slice ra n rc) := HK.out.tab.cell 3
          go_wp2_with (at_builtin; refine wpList_append_some rfl (.tmp 75) (.tmp 76) 40 rfl B 42 i42 _ 1 8 Try.underlying40 hi42 z420 z421 z422 rfl (by decide) (.slice ra n rc) n _ rfl (HK.out.rr.alloc _) ⟨wr.heap.size, 0, none⟩ 1 1 [.pointer none] rfl rfl (cells_new _ _ _ _ rfl) (by simp [Value.oneCell']) (by unfold maxLen; omega) (by omega) (by have := HK.out.tab.lt; simp; omega) (by omega) ?_; intro g5 cap5 w5 hown5 hg5; have hkp5 := (KeepT.alloc [60, 62, 9, 50] wr _).trans (KeepT.append (HK.out.rr.alloc _) hg5 (by decide)); have hc5 : w5.cell? ⟨T, 3, none⟩ = some (.slice ra n rc) := (HK.out.tab.keep hkp5 (by decide) (by decide)).cell 3; have hf5 := (HK.out.tab.keep hkp5 (by decide) (by decide)).free 3; have hc6 : w5.cell? ⟨T, 1, none⟩ = some (.slice (some ⟨g3, 0, none⟩) (n + 1) cap3) := (HK.out.tab.keep hkp5 (by decide) (by decide)).cell 1)
          have hT5 := HK.out.tab.keep hkp5 (by decide) (by decide)
          have hkr5 := hkp5.row HK.out.kr (by decide)
          have hbr5 := hkp5.row HK.out.br (by decide)
          have hB5 : Below B w w5 := Below.append (HB.out.alloc HK.out.tab.lt _) (by have := HK.out.tab.lt; simp; omega) (HK.out.rr.alloc _) hg5
          have hk5 : KeepT [9, 50, 42] w5 (w5.setCell ⟨T, 3, none⟩ (.slice (some ⟨g5, 0, none⟩) (n + 1) cap5)) := hT5.kset 3 _ (by decide)
          have hown6 : w5.ownsRow B 42 1 (.slice (some ⟨g5, 0, none⟩) (n + 1) cap5) (n + 1) (List.replicate (n + 1) (.pointer none)) := by
            rw [List.replicate_succ']; exact hown5
          go_ret
          refine ⟨rfl, ⟨S', H2, A2, some ⟨g3, 0, none⟩, ba', some ⟨g5, 0, none⟩, cap3, bc', cap5, ?_, ?_⟩, hB5.setCell hT5.bt _⟩
          · rw [HGM.out, ← HQ2.out]
            exact ⟨hT5.set 3 _ rfl, hk5.row hkr5 (by decide), hk5.row hbr5 (by decide), hk5.row hown6 (by decide)⟩
          · rw [HGM.out]; exact HI2.out

theorem add_any (B T M e n per : Nat) (hs : Nat → Nat) (own : Bool) (ks : List Value) (key : ByteArray) (nn : Int) (w : World)
    (hM : M = 2 ^ e) (hM2 : M ≤ 4096) (hn : n + 1 ≤ 1024) (hper : per = nn.toNat) (hnn : nn ≤ 65536) (hb : (n + 1) * per ≤ 65536) (hh : hs n < 18446744073709551616) (h34 : 4 * n ≤ 3 * M) (hk : Holds w B T M n per own ks hs) :
    Calls Try.prog 28 #[.pointer (some ⟨T, 0, none⟩), .string key, .int .u64 ((hs n : Nat) : Int), .int .i64 nn] w fun e w' => e = .returned (.int .i64 (n : Int)) ∧
      Holds w' B T (grow M n) (n + 1) per own (ks ++ [.string key]) hs ∧ Below B w w' := by
  obtain ⟨S, H, A, ka, ba, ra, kc, bc, rc, hk, hi⟩ := hk
  exact add_core B T S M e n per H A hs ka ba ra kc bc rc own ks key nn w hM hM2 hn hper hnn hb hh h34 hk hi

theorem zzAdd_any (B T M e n per : Nat) (hs : Nat → Nat) (own : Bool) (ks : List Value) (key : ByteArray) (nn : Int) (w : World)
    (hM : M = 2 ^ e) (hM2 : M ≤ 4096) (hn : n + 1 ≤ 1024) (hper : per = nn.toNat) (hnn : nn ≤ 65536) (hb : (n + 1) * per ≤ 65536) (hh : hs n < 18446744073709551616) (h34 : 4 * n ≤ 3 * M) (hk : Holds w B T M n per own ks hs) :
    Calls Try.prog 27 #[.pointer (some ⟨T, 0, none⟩), .string key, .int .u64 ((hs n : Nat) : Int), .int .i64 nn] w fun e w' => e = .returned (.int .i64 (n : Int)) ∧
      Holds w' B T (grow M n) (n + 1) per own (ks ++ [.string key]) hs ∧ Below B w w' := by
  have HC := hide (add_any B T M e n per hs own ks key nn w hM hM2 hn hper hnn hb hh h34 hk)
  clear hM hM2 hn hper hnn hb hh h34 hk
  go_enter Try.func27, Try.ntmps27
  go_wp2_with (go_at_call 28; refine HC.out.mono ?_; rintro e w' ⟨rfl, hk, hb⟩)
  go_ret
  exact ⟨rfl, hk, hb⟩

end Go.Proofs.Qxb6600461a.Kt
