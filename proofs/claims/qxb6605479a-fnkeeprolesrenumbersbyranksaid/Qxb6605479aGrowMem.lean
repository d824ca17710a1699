/-
  THE MEMORY OF 'grow': five blocks of its own (the captured slice of held roles, the counters and their variable, the waiting lists' row and its variable), a row for each waiting list, a row for what is ready.
-/
import Derived.Test.Qxb6605479aNaive
import Derived.Deep.AppendLies
import Derived.OneCell
import Derived.WalkSmall
import Derived.Laws.OwnMore
namespace Go.Proofs.Qxb6605479a
open Go.RowKit

/-- Numbers as cells. -/
def ints (l : List Nat) : List Value := l.map fun (i : Nat) => Value.int .i64 (i : Int)
theorem ints_length (l : List Nat) : (ints l).length = l.length := by simp [ints]
theorem ints_append (l m : List Nat) : ints (l ++ m) = ints l ++ ints m := by simp [ints]
theorem ints_at (l : List Nat) (i : Nat) (h : i < l.length) : (ints l)[i]? = some (.int .i64 (l[i] : Int)) := by simp [ints, h]

theorem ownsRow_of_block {w w' : World} {base e size n : Nat} {v : Value} {xs : List Value} (h : w.ownsRow base e size v n xs) (hb : ∀ g, v.ownBlock = some g → w'.heap[g]? = w.heap[g]?) : w'.ownsRow base e size v n xs := by
  refine ⟨h.1, ?_⟩
  rcases h.2 with hn | ⟨g, cap, cur, rfl, h1, h2, rest⟩
  · exact .inl hn
  · exact .inr ⟨g, cap, cur, rfl, h1, (hb g rfl).trans h2, rest⟩

/-- THE MEMORY OF 'grow', B = w0.heap.size: 'w0': the world in which it was called; 'hb': the block of the held roles. -/
structure GM (w0 : World) (hb n R hcap : Nat) (X : Nat → Bool) (u : Nat → Nat) (wl : Nat → List Nat) (V : Nat → Value) (rv : Value) (ready : List Nat) (w : World) : Prop where
  box : w.heap[w0.heap.size]? = some (.cells #[.slice (some ⟨hb, 0, none⟩) n hcap] 23 (0, 0))
  un : w.rowIs (w0.heap.size + 1) 3 R (fun i => .int .i64 (u i : Int))
  unv : w.heap[w0.heap.size + 2]? = some (.cells #[.slice (some ⟨w0.heap.size + 1, 0, none⟩) R R] 64 (0, 0))
  wa : w.rowIs (w0.heap.size + 3) 64 n V
  wav : w.heap[w0.heap.size + 4]? = some (.cells #[.slice (some ⟨w0.heap.size + 3, 0, none⟩) n n] 77 (0, 0))
  held : w.rowIs hb 4 n (fun i => .bool (X i))
  own : ∀ r, r < n → w.ownsRow (w0.heap.size + 5) 3 1 (V r) (wl r).length (ints (wl r))
  apart : ∀ r r', r < n → r' < n → r ≠ r' → ∀ g, (V r).ownBlock = some g → (V r').ownBlock ≠ some g
  rdy : w.ownsRow (w0.heap.size + 5) 3 1 rv ready.length (ints ready)
  rapart : ∀ r, r < n → ∀ g, (V r).ownBlock = some g → rv.ownBlock ≠ some g
  hlt : hb < w0.heap.size
  old : w0.grownBy w (some hb)
  size : w0.heap.size + 5 ≤ w.heap.size

section
variable {w0 w w' : World} {hb n R hcap : Nat} {X : Nat → Bool} {u : Nat → Nat} {wl : Nat → List Nat} {V : Nat → Value} {rv : Value} {ready : List Nat}

/-- Nothing of it is touched. -/
theorem GM.kept (h : GM w0 hb n R hcap X u wl V rv ready w) (hg : w.grownBy w' none) : GM w0 hb n R hcap X u wl V rv ready w' := by
  have hk : ∀ k, k < w.heap.size → w'.heap[k]? = w.heap[k]? := fun k hk => hg.block k hk (by simp)
  have hs := h.size
  have hl := h.hlt
  refine ⟨(hk _ (by omega)).trans h.box, h.un.of_block (hk _ h.un.lt), (hk _ (by omega)).trans h.unv, h.wa.of_block (hk _ h.wa.lt), (hk _ (by omega)).trans h.wav, h.held.of_block (hk _ h.held.lt), fun r hr => ownsRow_of_block (h.own r hr) (fun g hg => hk g ((h.own r hr).lt g hg).2), h.apart, ownsRow_of_block h.rdy (fun g hg => hk g (h.rdy.lt g hg).2), h.rapart, h.hlt, ?_, Nat.le_trans hs hg.size⟩
  have ho := h.old
  exact ⟨hg.os.trans ho.os, hg.tape.trans ho.tape, hg.output.trans ho.output, Nat.le_trans ho.size hg.size, fun k hk1 hk2 => (hk k (by omega)).trans (ho.block k hk1 hk2)⟩

theorem GM.alloc (h : GM w0 hb n R hcap X u wl V rv ready w) (o : Obj) : GM w0 hb n R hcap X u wl V rv ready (w.alloc o) := h.kept (World.grownBy_alloc w o none)
theorem GM.drew (h : GM w0 hb n R hcap X u wl V rv ready w) : GM w0 hb n R hcap X u wl V rv ready w.drew := h.kept ⟨rfl, rfl, rfl, Nat.le_refl _, fun _ _ _ => rfl⟩

/-- A counter is stored. -/
theorem GM.count (h : GM w0 hb n R hcap X u wl V rv ready w) (i x : Nat) : GM w0 hb n R hcap X (Plain.upd u i x) wl V rv ready (w.setCell ⟨w0.heap.size + 1, i, none⟩ (.int .i64 (x : Int))) := by
  have hk : ∀ k, k ≠ w0.heap.size + 1 → (w.setCell ⟨w0.heap.size + 1, i, none⟩ (.int .i64 (x : Int))).heap[k]? = w.heap[k]? := fun k hk => Below.heap_setCell _ _ _ _ hk
  have hs := h.size
  have hl := h.hlt
  refine ⟨(hk _ (by omega)).trans h.box, (h.un.set i _).congr (fun j hj => ?_), (hk _ (by omega)).trans h.unv, h.wa.of_block (hk _ (by omega)), (hk _ (by omega)).trans h.wav, h.held.of_block (hk _ (by omega)), fun r hr => ownsRow_of_block (h.own r hr) (fun g hg => hk g (by have := ((h.own r hr).lt g hg).1; omega)), h.apart, ownsRow_of_block h.rdy (fun g hg => hk g (by have := (h.rdy.lt g hg).1; omega)), h.rapart, h.hlt, ?_, by simpa [World.setCell] using hs⟩
  · by_cases e : j = i
    · subst e; simp [Plain.upd]
    · simp [Plain.upd, e]
  · have ho := h.old
    exact ⟨ho.os, ho.tape, ho.output, by simpa [World.setCell] using ho.size, fun k hk1 hk2 => (hk k (by omega)).trans (ho.block k hk1 hk2)⟩

/-- A role is held from now on. -/
theorem GM.hold (h : GM w0 hb n R hcap X u wl V rv ready w) (r : Nat) : GM w0 hb n R hcap (Plain.put X r) u wl V rv ready (w.setCell ⟨hb, r, none⟩ (.bool true)) := by
  have hk : ∀ k, k ≠ hb → (w.setCell ⟨hb, r, none⟩ (.bool true)).heap[k]? = w.heap[k]? := fun k hk => Below.heap_setCell _ _ _ _ hk
  have hs := h.size
  have hl := h.hlt
  refine ⟨(hk _ (by omega)).trans h.box, h.un.of_block (hk _ (by omega)), (hk _ (by omega)).trans h.unv, h.wa.of_block (hk _ (by omega)), (hk _ (by omega)).trans h.wav, put_row h.held r, fun r hr => ownsRow_of_block (h.own r hr) (fun g hg => hk g (by have := ((h.own r hr).lt g hg).1; omega)), h.apart, ownsRow_of_block h.rdy (fun g hg => hk g (by have := (h.rdy.lt g hg).1; omega)), h.rapart, h.hlt, ?_, by simpa [World.setCell] using hs⟩
  have ho := h.old
  exact ⟨ho.os, ho.tape, ho.output, by simpa [World.setCell] using ho.size, fun k hk1 hk2 => (hk k (by intro e; exact hk2 (by rw [e]))).trans (ho.block k hk1 hk2)⟩

/-- A waiting list is appended to and its value stored. -/
theorem GM.wait (h : GM w0 hb n R hcap X u wl V rv ready w) {o : Obj} {w1 : World} {g cap : Nat} {r i : Nat} (hr : r < n)
    (hown : w1.ownsRow (w0.heap.size + 5) 3 1 (.slice (some ⟨g, 0, none⟩) ((wl r).length + 1) cap) ((wl r).length + 1) (ints (wl r) ++ [.int .i64 (i : Int)]))
    (hgrow : (w.alloc o).drew.grownBy w1 (V r).ownBlock) (hat : (V r).ownBlock = some g ∨ g = w.heap.size + 1) :
    GM w0 hb n R hcap X u (Plain.upd wl r (wl r ++ [i])) (Plain.upd V r (.slice (some ⟨g, 0, none⟩) ((wl r).length + 1) cap)) rv ready (w1.setCell ⟨w0.heap.size + 3, r, none⟩ (.slice (some ⟨g, 0, none⟩) ((wl r).length + 1) cap)) := by
  have hs := h.size
  have hl := h.hlt
  have hVlt := (h.own r hr).lt
  -- blocks of w that are not the list's own row are kept into w1
  have h1 : ∀ k, k < w.heap.size → (V r).ownBlock ≠ some k → w1.heap[k]? = w.heap[k]? := fun k hk hne => by
    rw [hgrow.block k (by simp; omega) (fun e => hne e.symm)]
    exact Below.heap_alloc w o k hk
  have h2 : ∀ k, k < w0.heap.size + 5 → w1.heap[k]? = w.heap[k]? := fun k hk => h1 k (by omega) (fun e => by have := (hVlt k e).1; omega)
  have h3 : ∀ k, k ≠ w0.heap.size + 3 → (w1.setCell ⟨w0.heap.size + 3, r, none⟩ (.slice (some ⟨g, 0, none⟩) ((wl r).length + 1) cap)).heap[k]? = w1.heap[k]? := fun k hk => Below.heap_setCell _ _ _ _ hk
  have hgb : w0.heap.size + 5 ≤ g := by
    rcases hat with e | e
    · exact (hVlt g e).1
    · omega
  have hsz : w.heap.size + 1 ≤ w1.heap.size := by have := hgrow.size; simpa using this
  refine ⟨((h3 _ (by omega)).trans (h2 _ (by omega))).trans h.box, h.un.of_block ((h3 _ (by omega)).trans (h2 _ (by omega))), ((h3 _ (by omega)).trans (h2 _ (by omega))).trans h.unv, ((h.wa.of_block (h2 _ (by omega))).set r _).congr (fun j hj => ?_), ((h3 _ (by omega)).trans (h2 _ (by omega))).trans h.wav, h.held.of_block ((h3 _ (by omega)).trans (h2 _ (by omega))), fun q hq => ?_, fun q q' hq hq' hne k hk => ?_, ownsRow_of_block h.rdy (fun k hk => ?_), fun q hq k hk => ?_, h.hlt, ?_, by simp [World.setCell]; omega⟩
  · by_cases e : j = r
    · subst e; simp [Plain.upd]
    · simp [Plain.upd, e]
  · by_cases e : q = r
    · subst e
      rw [Plain.upd_same, Plain.upd_same, ints_append, List.length_append]
      exact ownsRow_of_block hown (fun k hk => h3 k (by simp [Value.ownBlock] at hk; omega))
    · rw [Plain.upd_other _ _ e, Plain.upd_other _ _ e]
      refine ownsRow_of_block (h.own q hq) (fun k hk => ?_)
      have hb := (h.own q hq).lt k hk
      exact (h3 k (by omega)).trans (h1 k hb.2 (h.apart q r hq hr e k hk))
  · by_cases e : q = r
    · subst e
      rw [Plain.upd_same] at hk
      rw [Plain.upd_other _ _ (Ne.symm hne)]
      have hk' : g = k := by simpa [Value.ownBlock] using hk
      subst hk'
      rcases hat with e1 | e1
      · exact h.apart q q' hq hq' hne g e1
      · intro e2
        have := ((h.own q' hq').lt g e2).2
        omega
    · rw [Plain.upd_other _ _ e] at hk
      by_cases e' : q' = r
      · subst e'
        rw [Plain.upd_same]
        intro e2
        have hk' : g = k := by simpa [Value.ownBlock] using e2
        subst hk'
        rcases hat with e1 | e1
        · exact h.apart q q' hq hq' hne g hk e1
        · have := ((h.own q hq).lt g hk).2
          omega
      · rw [Plain.upd_other _ _ e']
        exact h.apart q q' hq hq' hne k hk
  · have hb := h.rdy.lt k hk
    exact (h3 k (by omega)).trans (h1 k hb.2 (fun e => h.rapart r hr k e hk))
  · by_cases e : q = r
    · subst e
      rw [Plain.upd_same] at hk
      have hk' : g = k := by simpa [Value.ownBlock] using hk
      subst hk'
      intro e2
      rcases hat with e1 | e1
      · exact h.rapart q hq g e1 e2
      · have := (h.rdy.lt g e2).2
        omega
    · rw [Plain.upd_other _ _ e] at hk
      exact h.rapart q hq k hk
  · have ho := h.old
    refine ⟨hgrow.os.trans ho.os, hgrow.tape.trans ho.tape, hgrow.output.trans ho.output, by have := ho.size; simp [World.setCell]; omega, fun k hk1 hk2 => ?_⟩
    exact ((h3 k (by omega)).trans (h2 k (by omega))).trans (ho.block k hk1 hk2)

/-- What is ready is appended to. -/
theorem GM.push (h : GM w0 hb n R hcap X u wl V rv ready w) {o : Obj} {w1 : World} {g cap i : Nat}
    (hown : w1.ownsRow (w0.heap.size + 5) 3 1 (.slice (some ⟨g, 0, none⟩) (ready.length + 1) cap) (ready.length + 1) (ints ready ++ [.int .i64 (i : Int)]))
    (hgrow : (w.alloc o).grownBy w1 rv.ownBlock) (hat : rv.ownBlock = some g ∨ g = w.heap.size + 1) :
    GM w0 hb n R hcap X u wl V (.slice (some ⟨g, 0, none⟩) (ready.length + 1) cap) (ready ++ [i]) w1 := by
  have hs := h.size
  have hl := h.hlt
  have hVlt := h.rdy.lt
  have h1 : ∀ k, k < w.heap.size → rv.ownBlock ≠ some k → w1.heap[k]? = w.heap[k]? := fun k hk hne => by
    rw [hgrow.block k (by simp; omega) (fun e => hne e.symm)]
    exact Below.heap_alloc w o k hk
  have h2 : ∀ k, k < w0.heap.size + 5 → w1.heap[k]? = w.heap[k]? := fun k hk => h1 k (by omega) (fun e => by have := (hVlt k e).1; omega)
  have hsz : w.heap.size + 1 ≤ w1.heap.size := by have := hgrow.size; simpa using this
  refine ⟨(h2 _ (by omega)).trans h.box, h.un.of_block (h2 _ (by omega)), (h2 _ (by omega)).trans h.unv, h.wa.of_block (h2 _ (by omega)), (h2 _ (by omega)).trans h.wav, h.held.of_block (h2 _ (by omega)), fun q hq => ?_, h.apart, ?_, fun q hq k hk => ?_, h.hlt, ?_, by omega⟩
  · refine ownsRow_of_block (h.own q hq) (fun k hk => ?_)
    exact h1 k ((h.own q hq).lt k hk).2 (h.rapart q hq k hk)
  · rw [ints_append, List.length_append]
    exact hown
  · intro e2
    have hk' : g = k := by simpa [Value.ownBlock] using e2
    subst hk'
    rcases hat with e1 | e1
    · exact h.rapart q hq g hk e1
    · have := ((h.own q hq).lt g hk).2
      omega
  · have ho := h.old
    exact ⟨hgrow.os.trans ho.os, hgrow.tape.trans ho.tape, hgrow.output.trans ho.output, by have := ho.size; omega, fun k hk1 hk2 => (h2 k (by omega)).trans (ho.block k hk1 hk2)⟩

/-- The last of what is ready is taken. -/
theorem GM.pop {g cap i : Nat} (h : GM w0 hb n R hcap X u wl V (.slice (some ⟨g, 0, none⟩) (ready.length + 1) cap) (ready ++ [i]) w) : GM w0 hb n R hcap X u wl V (.slice (some ⟨g, 0, none⟩) ready.length cap) ready w := by
  have hr := h.rdy
  rw [ints_append, List.length_append] at hr
  exact ⟨h.box, h.un, h.unv, h.wa, h.wav, h.held, h.own, h.apart, ownsRow_pop (by rw [ints_length, Nat.mul_one]) hr, h.rapart, h.hlt, h.old, h.size⟩

/-- What is ready is nil, or lies in a row. -/
theorem GM.readyForm (h : GM w0 hb n R hcap X u wl V rv ready w) : (rv = .slice none 0 0 ∧ ready = []) ∨ ∃ g cap, rv = .slice (some ⟨g, 0, none⟩) ready.length cap := by
  rcases h.rdy.2 with ⟨h1, h2⟩ | ⟨g, cap, cur, h1, _⟩
  · exact .inl ⟨h1, List.eq_nil_of_length_eq_zero h2⟩
  · exact .inr ⟨g, cap, h1⟩

theorem GM.listForm (h : GM w0 hb n R hcap X u wl V rv ready w) {r : Nat} (hr : r < n) : (V r = .slice none 0 0 ∧ wl r = []) ∨ ∃ g cap, V r = .slice (some ⟨g, 0, none⟩) (wl r).length cap := by
  rcases (h.own r hr).2 with ⟨h1, h2⟩ | ⟨g, cap, cur, h1, _⟩
  · exact .inl ⟨h1, List.eq_nil_of_length_eq_zero h2⟩
  · exact .inr ⟨g, cap, h1⟩
end
end Go.Proofs.Qxb6605479a
