/-
  ZZOwnData: the chain laid, handed to ownData, laid back out.
-/
import Derived.Test.Qxb6605551aOwn
namespace Go.Proofs.Qxb6605551a
open Go.RowKit

def zEnt : Value := .agg #[.int .i64 0, .int .i64 0, .int .u64 0, .int .u8 0, .slice none 0 0]

/-- The chain's row, the first k entries told. -/
def ChainTo (w : World) (b : Nat) (O D S T : Nat → Int) (c : DD) (k : Nat) : Prop :=
  ∃ F, w.rowIs b 55 (c.n * 5) F ∧ ∀ i, i < k → F (i * 5) = .int .i64 (O i) ∧ F (i * 5 + 1) = .int .i64 (D i) ∧ F (i * 5 + 2) = .int .u64 (S i) ∧ F (i * 5 + 3) = .int .u8 (T i) ∧ F (i * 5 + 4) = c.headOf i

theorem ChainTo.put {w : World} {b : Nat} {O D S T : Nat → Int} {c : DD} {k : Nat} (h : ChainTo w b O D S T c k) :
    ChainTo (((((w.setCell ⟨b, k * 5, none⟩ (.int .i64 (O k))).setCell ⟨b, k * 5 + 1, none⟩ (.int .i64 (D k))).setCell ⟨b, k * 5 + 2, none⟩ (.int .u64 (S k))).setCell ⟨b, k * 5 + 3, none⟩ (.int .u8 (T k))).setCell ⟨b, k * 5 + 4, none⟩ (.slice (c.da k) (c.dl k) (c.dc k))) b O D S T c (k + 1) := by
  obtain ⟨F, hF, ht⟩ := h
  refine ⟨_, ((((hF.set _ _).set _ _).set _ _).set _ _).set _ _, fun i hi => ?_⟩
  by_cases e : i = k
  · subst e
    simp [headOf_eq]
  · have hne : ∀ q, q < 5 → ∀ r, r < 5 → i * 5 + q ≠ k * 5 + r := fun q hq r hr => by omega
    have h00 : i * 5 ≠ k * 5 := by omega
    have h01 : ∀ r, r < 5 → i * 5 ≠ k * 5 + r := fun r hr => by omega
    have h10 : ∀ q, q < 5 → i * 5 + q ≠ k * 5 := fun q hq => by omega
    have := ht i (by omega)
    simp only [h00, h01 1 (by omega), h01 2 (by omega), h01 3 (by omega), h01 4 (by omega), h10 1 (by omega), h10 2 (by omega), h10 3 (by omega), h10 4 (by omega), hne 1 (by omega) 1 (by omega), hne 1 (by omega) 2 (by omega), hne 1 (by omega) 3 (by omega), hne 1 (by omega) 4 (by omega), hne 2 (by omega) 1 (by omega), hne 2 (by omega) 2 (by omega), hne 2 (by omega) 3 (by omega), hne 2 (by omega) 4 (by omega), hne 3 (by omega) 1 (by omega), hne 3 (by omega) 2 (by omega), hne 3 (by omega) 3 (by omega), hne 3 (by omega) 4 (by omega), hne 4 (by omega) 1 (by omega), hne 4 (by omega) 2 (by omega), hne 4 (by omega) 3 (by omega), hne 4 (by omega) 4 (by omega), if_false]
    exact this

/-- The five slices laid out, the first k entries told. -/
structure Outs (w wr : World) (O D S T : Nat → Int) (H : Nat → Value) (n k : Nat) : Prop where
  r0 : RowTo wr w.heap.size 2 n (fun i => .int .i64 (O i)) k
  r1 : RowTo wr (w.heap.size + 1) 2 n (fun i => .int .i64 (D i)) k
  r2 : RowTo wr (w.heap.size + 1 + 1) 28 n (fun i => .int .u64 (S i)) k
  r3 : RowTo wr (w.heap.size + 1 + 1 + 1) 5 n (fun i => .int .u8 (T i)) k
  r4 : RowTo wr (w.heap.size + 1 + 1 + 1 + 1) 30 n H k
  below : Below w.heap.size w wr

theorem RowTo.alloc {w : World} {b t n : Nat} {F : Nat → Value} {k : Nat} (h : RowTo w b t n F k) (o : Obj) : RowTo (w.alloc o) b t n F k := h.of_block (Below.heap_alloc _ _ _ h.lt)
theorem RowTo.made' {w w0 : World} (s : Nat) (z : Value) (n t : Nat) (F : Nat → Value) (hs : w.heap.size = s) (_h : w0 = w) : RowTo (w.alloc (.cells (zrow z n) t)) s t n F 0 := by
  rw [← hs]; exact RowTo.made w z n t F
theorem RowTo.other {w : World} {b t n : Nat} {F : Nat → Value} {k : Nat} (h : RowTo w b t n F k) {a : Addr} (ha : b ≠ a.block) (v : Value) : RowTo (w.setCell a v) b t n F k := h.of_block (Below.heap_setCell _ _ _ _ ha)

theorem Outs.start (w : World) (O D S T : Nat → Int) (H : Nat → Value) (n : Nat) (z0 z1 z2 z3 z4 : Value) :
    Outs w (((((w.alloc (.cells (zrow z0 n) 2)).alloc (.cells (zrow z1 n) 2)).alloc (.cells (zrow z2 n) 28)).alloc (.cells (zrow z3 n) 5)).alloc (.cells (zrow z4 n) 30)) O D S T H n 0 := by
  refine ⟨?_, ?_, ?_, ?_, ?_, ?_⟩
  · exact ((((RowTo.made w z0 n 2 _).alloc _).alloc _).alloc _).alloc _
  · exact (((RowTo.made' _ z1 n 2 _ (by simp) rfl).alloc _).alloc _).alloc _
  · exact ((RowTo.made' _ z2 n 28 _ (by simp) rfl).alloc _).alloc _
  · exact (RowTo.made' _ z3 n 5 _ (by simp) rfl).alloc _
  · exact RowTo.made' _ z4 n 30 _ (by simp) rfl
  · exact (((((Below.refl _ _).alloc (Nat.le_refl _) _).alloc (by simp) _).alloc (by first | (simp; done) | (simp; omega)) _).alloc (by first | (simp; done) | (simp; omega)) _).alloc (by first | (simp; done) | (simp; omega)) _

theorem Outs.put {w wr : World} {O D S T : Nat → Int} {H : Nat → Value} {n k : Nat} (h : Outs w wr O D S T H n k) (x : Value) (hx : x = H k) :
    Outs w (((((wr.setCell ⟨w.heap.size, k, none⟩ (.int .i64 (O k))).setCell ⟨w.heap.size + 1, k, none⟩ (.int .i64 (D k))).setCell ⟨w.heap.size + 1 + 1, k, none⟩ (.int .u64 (S k))).setCell ⟨w.heap.size + 1 + 1 + 1, k, none⟩ (.int .u8 (T k))).setCell ⟨w.heap.size + 1 + 1 + 1 + 1, k, none⟩ x) O D S T H n (k + 1) := by
  refine ⟨?_, ?_, ?_, ?_, ?_, ?_⟩
  · exact ((((h.r0.put _ rfl).other (by first | (simp; done) | (simp; omega)) _).other (by first | (simp; done) | (simp; omega)) _).other (by first | (simp; done) | (simp; omega)) _).other (by first | (simp; done) | (simp; omega)) _
  · exact ((((h.r1.other (by first | (simp; done) | (simp; omega)) _).put _ rfl).other (by first | (simp; done) | (simp; omega)) _).other (by first | (simp; done) | (simp; omega)) _).other (by first | (simp; done) | (simp; omega)) _
  · exact ((((h.r2.other (by first | (simp; done) | (simp; omega)) _).other (by first | (simp; done) | (simp; omega)) _).put _ rfl).other (by first | (simp; done) | (simp; omega)) _).other (by first | (simp; done) | (simp; omega)) _
  · exact ((((h.r3.other (by first | (simp; done) | (simp; omega)) _).other (by first | (simp; done) | (simp; omega)) _).other (by first | (simp; done) | (simp; omega)) _).put _ rfl).other (by first | (simp; done) | (simp; omega)) _
  · exact ((((h.r4.other (by first | (simp; done) | (simp; omega)) _).other (by first | (simp; done) | (simp; omega)) _).other (by first | (simp; done) | (simp; omega)) _).other (by first | (simp; done) | (simp; omega)) _).put _ hx
  · exact (((((h.below.setCell (Nat.le_refl _) _).setCell (by first | (simp; done) | (simp; omega)) _).setCell (by first | (simp; done) | (simp; omega)) _).setCell (by first | (simp; done) | (simp; omega)) _).setCell (by first | (simp; done) | (simp; omega)) _)

/-- What ZZOwnData leaves: the five slices' rows, blocks p .. p + 4; the entries' data in one row, block g. -/
structure Outed (w w' : World) (O D S T : Nat → Int) (c : DD) (g p : Nat) : Prop where
  r0 : w'.rowIs p 2 c.n (fun i => .int .i64 (O i))
  r1 : w'.rowIs (p + 1) 2 c.n (fun i => .int .i64 (D i))
  r2 : w'.rowIs (p + 1 + 1) 28 c.n (fun i => .int .u64 (S i))
  r3 : w'.rowIs (p + 1 + 1 + 1) 5 c.n (fun i => .int .u8 (T i))
  r4 : w'.rowIs (p + 1 + 1 + 1 + 1) 30 c.n (c.owned g).headOf
  own : ∃ f, w'.rowIs g 5 (sumTo c.dl c.n) f ∧ ∀ i, i < c.n → ∀ j, j < c.dl i → f (sumTo c.dl i + j) = .int .u8 (c.dv i j)
  lo : w.heap.size ≤ g
  gp : g < p
  below : Below w.heap.size w w'

def SaysZZ (w w' : World) (O D S T : Nat → Int) (c : DD) (e : Ending) : Prop :=
  ∃ g p, e = .returned (.tuple #[.slice (some ⟨p, 0, none⟩) c.n c.n, .slice (some ⟨p + 1, 0, none⟩) c.n c.n, .slice (some ⟨p + 1 + 1, 0, none⟩) c.n c.n, .slice (some ⟨p + 1 + 1 + 1, 0, none⟩) c.n c.n, .slice (some ⟨p + 1 + 1 + 1 + 1, 0, none⟩) c.n c.n]) ∧ Outed w w' O D S T c g p

theorem own_row {w : World} {b g N : Nat} {xs : List Value} (h : w.ownsRow b 5 1 (.slice (some ⟨g, 0, none⟩) N N) N xs) : w.rowIs g 5 N (fun i => xs[i]?.getD default) := by
  obtain ⟨hl, h | ⟨g', cap, cur, h1, h2, h3, h4, h5, h6, h7⟩⟩ := h
  · cases h.1
  · cases h1
    have hs : cur.size = N := by omega
    refine ⟨cur, h3, hs, fun i hi => ?_⟩
    have e : xs = cur.toList := by rw [← h7, List.take_of_length_le (by first | (simp; done) | (simp; omega))]
    rw [e]
    simp [hs, hi]

theorem results5 {fn : Func} {t0 t1 t2 t3 t4 : Tmp} (h : fn.results = #[.tmp t0, .tmp t1, .tmp t2, .tmp t3, .tmp t4]) (tmps : Array Value) (P : Program) (w : World) :
    (results fn tmps).run P w = .ok (.tuple #[tmps.getD t0 undef, tmps.getD t1 undef, tmps.getD t2 undef, tmps.getD t3 undef, tmps.getD t4 undef]) w := by
  simp [results, h]

set_option maxHeartbeats 4000000 in
theorem zzOwn (w : World) (a0 a1 a2 a3 a : Option Addr) (b0 o0 cap0 b1 o1 cap1 b2 o2 cap2 b3 o3 cap3 b o cap : Nat) (O D S T : Nat → Int) (c : DD)
    (A0 : 0 < c.n → a0 = some ⟨b0, o0, none⟩) (A1 : 0 < c.n → a1 = some ⟨b1, o1, none⟩) (A2 : 0 < c.n → a2 = some ⟨b2, o2, none⟩) (A3 : 0 < c.n → a3 = some ⟨b3, o3, none⟩) (A : 0 < c.n → a = some ⟨b, o, none⟩)
    (v0 : Iv w .i64 b0 o0 c.n O) (v1 : Iv w .i64 b1 o1 c.n D) (v2 : Iv w .u64 b2 o2 c.n S) (v3 : Iv w .u8 b3 o3 c.n T) (v : DDv w b o c) (hn : c.n ≤ 65536) (hN : sumTo c.dl c.n ≤ 1048576) :
    Calls Try.prog 17 #[.slice a0 c.n cap0, .slice a1 c.n cap1, .slice a2 c.n cap2, .slice a3 c.n cap3, .slice a c.n cap] w fun e w' => SaysZZ w w' O D S T c e := by
  have HA0 := hid A0
  have HA1 := hid A1
  have HA2 := hid A2
  have HA3 := hid A3
  have HA := hid A
  have HV0 := hid v0
  have HV1 := hid v1
  have HV2 := hid v2
  have HV3 := hid v3
  have HV := hid v
  clear A0 A1 A2 A3 A v0 v1 v2 v3 v
  have hmk := mk_any 52 55 5 56 zEnt Try.underlying52 Try.info55 c.n c.n (Nat.le_refl _) (by omega) (by omega)
  go_enter Try.func17, Try.ntmps17
  go_wp2
  go_loopw [29] (fun i wr => ∃ k : Nat, k ≤ c.n ∧ i = .int .i64 k ∧ ChainTo wr w.heap.size O D S T c k ∧ wr.heap.size = w.heap.size + 1 ∧ Below w.heap.size w wr) (fun i _ => c.n - (intOf i).toNat)
  case atStart =>
    refine ⟨0, Nat.zero_le _, rfl, ?_, by simp, (Below.refl _ _).alloc (Nat.le_refl _) _⟩
    obtain ⟨f, hf⟩ := row_made w zEnt (c.n * 5) 55
    exact ⟨f, hf, fun i hi => by omega⟩
  case round =>
    clear hmk
    obtain ⟨k, hk, rfl, hch, hsz, hbel⟩ := hrel
    have HC := hid hch
    have HS := hid hsz
    have HB := hid hbel
    by_cases hlt : k < c.n
    · have a0' := HA0.out (by omega)
      have a1' := HA1.out (by omega)
      have a2' := HA2.out (by omega)
      have a3' := HA3.out (by omega)
      have a' := HA.out (by omega)
      subst a0' a1' a2' a3' a'
      have c0 := cell_below hbel (HV0.out k hlt)
      have c1 := cell_below hbel (HV1.out k hlt)
      have c2 := cell_below hbel (HV2.out k hlt)
      have c3 := cell_below hbel (HV3.out k hlt)
      have c4 := cell_below hbel (HV.out.head k hlt)
      obtain ⟨f, hf, _⟩ := hch
      have d0 := hf.cell (i := k * 5) (by omega)
      have d1 := hf.cell (i := k * 5 + 1) (by omega)
      have d2 := hf.cell (i := k * 5 + 2) (by omega)
      have d3 := hf.cell (i := k * 5 + 3) (by omega)
      have d4 := hf.cell (i := k * 5 + 4) (by omega)
      have z0 := hf.frozen (k * 5)
      have z1 := hf.frozen (k * 5 + 1)
      have z2 := hf.frozen (k * 5 + 2)
      have z3 := hf.frozen (k * 5 + 3)
      have z4 := hf.frozen (k * 5 + 4)
      have i1 : (0 : Int) ≤ (k : Int) := by omega
      have i2 : (k : Int) < (c.n : Int) := by omega
      clear hf hsz hbel
      go_wp2
      go_big_region
      go_wp2
      go_roundw
      case rel => exact ⟨k + 1, by omega, by go_num, HC.out.put, by simpa [World.setCell] using HS.out, (((((HB.out.setCell (Nat.le_refl _) _).setCell (Nat.le_refl _) _).setCell (Nat.le_refl _) _).setCell (Nat.le_refl _) _).setCell (Nat.le_refl _) _).drew⟩
      case measure => simp [intOf]; omega
    · obtain rfl : k = c.n := by omega
      obtain ⟨wa, hwa⟩ : ∃ x, x = wr := ⟨_, rfl⟩
      subst hwa
      obtain ⟨F, hF, ht⟩ := hch
      have hod := ownData wa c w.heap.size F hF (by omega) (fun i hi => (ht i hi).2.2.2.2) HV.out.at_ HV.out.nil (fun i hi => (HV.out.val i hi).below hbel) (fun i hi hp => World.block_lt_of_cell? w _ (HV.out.val i hi 0 hp)) hn hN
      have HT := hid ht
      have HOD := hid hod
      clear hsz hbel hF ht hod
      go_wp2_with fail
      refine HOD.out.mono ?_
      rintro e w3 ⟨rfl, hown⟩
      have HOW := hid hown
      have hp1 : w.heap.size + 1 ≤ w3.heap.size := by have := hown.below.size; have := HS.out; omega
      have hg1 : wa.heap.size < w3.heap.size := (hown.own.lt _ rfl).2
      clear hown HOD
      have m0 := mk_any 22 2 1 8 (.int .i64 0) Try.underlying22 Try.info2 c.n c.n (Nat.le_refl _) (by omega) (by omega)
      have m2 := mk_any 38 28 1 8 (.int .u64 0) Try.underlying38 Try.info28 c.n c.n (Nat.le_refl _) (by omega) (by omega)
      have m3 := mk_any 30 5 1 1 (.int .u8 0) Try.underlying30 Try.info5 c.n c.n (Nat.le_refl _) (by omega) (by omega)
      have m4 := mk_any 39 30 1 24 (.slice none 0 0) Try.underlying39 Try.info30 c.n c.n (Nat.le_refl _) (by omega) (by omega)
      rw [Nat.mul_one] at m0 m2 m3 m4
      go_wp2
      go_loopw [76] (fun i wq => ∃ k : Nat, k ≤ c.n ∧ i = .int .i64 k ∧ Outs w3 wq O D S T (c.owned wa.heap.size).headOf c.n k) (fun i _ => c.n - (intOf i).toNat)
      case atStart => exact ⟨0, Nat.zero_le _, rfl, Outs.start w3 O D S T _ c.n _ _ _ _ _⟩
      case round =>
        clear m0 m2 m3 m4
        obtain ⟨k, hk, rfl, hou⟩ := hrel
        have HU := hid hou
        by_cases hlt : k < c.n
        · obtain ⟨F', f1, f2, f3, f4⟩ := HOW.out.chain
          have f1' := row_below f1 hou.below
          have c0 := f1'.cell (i := k * 5) (by omega)
          have c1 := f1'.cell (i := k * 5 + 1) (by omega)
          have c2 := f1'.cell (i := k * 5 + 2) (by omega)
          have c3 := f1'.cell (i := k * 5 + 3) (by omega)
          have c4 := f1'.cell (i := k * 5 + 4) (by omega)
          have t := HT.out k hlt
          rw [show F' (k * 5) = F (k * 5) from f2 k hlt 0 (by omega), t.1] at c0
          rw [f2 k hlt 1 (by omega), t.2.1] at c1
          rw [f2 k hlt 2 (by omega), t.2.2.1] at c2
          rw [f2 k hlt 3 (by omega), t.2.2.2.1] at c3
          rw [f3 k hlt, headOf_eq] at c4
          obtain ⟨q0, g0, _⟩ := hou.r0
          obtain ⟨q1, g1, _⟩ := hou.r1
          obtain ⟨q2, g2, _⟩ := hou.r2
          obtain ⟨q3, g3, _⟩ := hou.r3
          obtain ⟨q4, g4, _⟩ := hou.r4
          have d0 := g0.cell hlt
          have d1 := g1.cell hlt
          have d2 := g2.cell hlt
          have d3 := g3.cell hlt
          have d4 := g4.cell hlt
          have z0 := g0.frozen k
          have z1 := g1.frozen k
          have z2 := g2.frozen k
          have z3 := g3.frozen k
          have z4 := g4.frozen k
          have hq : w.heap.size < w3.heap.size := by omega
          clear hou f1 f1' f2 f3 f4 g0 g1 g2 g3 g4 t
          go_wp2
          go_roundw
          case rel => exact ⟨k + 1, by omega, by go_num, HU.out.put _ rfl⟩
          case measure => simp [intOf]; omega
        · obtain rfl : k = c.n := by omega
          clear hou
          go_wp2
          (try simp only [Exit.inBlock, Exit.then])
          refine bodyPost_ret (results5 rfl _ _ _) rfl ?_
          refine ⟨wa.heap.size, w3.heap.size, rfl, HU.out.r0.full, HU.out.r1.full, HU.out.r2.full, HU.out.r3.full, HU.out.r4.full, ⟨_, row_below (own_row HOW.out.own) HU.out.below, fun i hi j hj => ?_⟩, by have := HB.out.size; omega, hg1, ?_⟩
          · show ((bytesTo c c.n)[sumTo c.dl i + j]?).getD default = _
            rw [bytesTo_get c i j hj c.n hi]
            rfl
          · exact below_of (HB.out.trans HOW.out.below) (by omega) HU.out.below
end Go.Proofs.Qxb6605551a
