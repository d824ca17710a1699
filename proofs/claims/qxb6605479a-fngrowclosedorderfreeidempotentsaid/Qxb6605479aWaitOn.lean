/-
  THE CLOSURE waitOn of 'grow' (grow$1): a role that is not held is counted and listed.
-/
import Derived.Test.Qxb6605479aGrowMem
import Derived.Deep.RegionHeld3
import Derived.Deep.DrawnRows
import Derived.Deep.RegionLaw
namespace Go.Proofs.Qxb6605479a
open Go.RowKit
attribute [local go_sem ↓] Go.wp_at_zero Go.wp_at_succ

/-- What is in no list's row, and none of grow's five blocks, stays. -/
def Spares (w0 : World) (n : Nat) (V : Nat → Value) (w w' : World) : Prop := ∀ k, w0.heap.size + 5 ≤ k → k < w.heap.size → (∀ r, r < n → (V r).ownBlock ≠ some k) → w'.heap[k]? = w.heap[k]?
theorem Spares.refl (w0 : World) (n : Nat) (V : Nat → Value) (w : World) : Spares w0 n V w w := fun _ _ _ _ => rfl

theorem spares_of {w0 w W w1 : World} {n : Nat} {V : Nat → Value} {i r : Nat} {x v : Value} {o : Obj} (hr : r < n) (hW : w.setCell ⟨w0.heap.size + 1, i, none⟩ x = W) (hgrow : (W.alloc o).drew.grownBy w1 (V r).ownBlock) : Spares w0 n V w (w1.setCell ⟨w0.heap.size + 3, r, none⟩ v) := by
  intro k hk1 hk2 hk3
  have e1 : (w1.setCell ⟨w0.heap.size + 3, r, none⟩ v).heap[k]? = w1.heap[k]? := Below.heap_setCell _ _ _ _ (by show k ≠ w0.heap.size + 3; omega)
  have e2 : W.heap[k]? = w.heap[k]? := by rw [← hW]; exact Below.heap_setCell _ _ _ _ (by show k ≠ w0.heap.size + 1; omega)
  have hs : W.heap.size = w.heap.size := by rw [← hW]; simp [World.setCell]
  rw [e1, hgrow.block k (by simp; omega) (fun e => hk3 r hr e.symm), ← e2]
  exact Below.heap_alloc W o k (by omega)

theorem size_of {w0 w W w1 : World} {row : Option Nat} {i r : Nat} {x v : Value} {o : Obj} (hW : w.setCell ⟨w0.heap.size + 1, i, none⟩ x = W) (hgrow : (W.alloc o).drew.grownBy w1 row) : w.heap.size ≤ (w1.setCell ⟨w0.heap.size + 3, r, none⟩ v).heap.size := by
  have hs : W.heap.size = w.heap.size := by rw [← hW]; simp [World.setCell]
  have := hgrow.size
  simp [World.setCell] at this ⊢
  omega

section
variable {w0 w : World} {hb n R hcap : Nat} {X : Nat → Bool} {u : Nat → Nat} {wl : Nat → List Nat} {V : Nat → Value} {rv : Value} {ready : List Nat}

set_option maxHeartbeats 400000 in
/-- The role is held: nothing is done. -/
theorem waitOn_held (h : GM w0 hb n R hcap X u wl V rv ready w) (i r : Nat) (hr : r < n) (hX : X r = true) :
    Calls Try.prog 44 #[.int .i64 (i : Int), .int .i64 (r : Int), .pointer (some ⟨w0.heap.size, 0, none⟩), .pointer (some ⟨w0.heap.size + 2, 0, none⟩), .pointer (some ⟨w0.heap.size + 4, 0, none⟩)] w fun e w' => e = .returned (.tuple #[]) ∧ w = w' := by
  have c1 := cell_of_one h.box
  have c2 := h.held.cell hr
  simp only [hX] at c2
  clear h hX
  go_enter Try.func44, Try.ntmps44
  go_wp2
  go_end0
  exact ⟨rfl, rfl⟩

set_option maxHeartbeats 2000000 in
/-- The role is not held. -/
theorem waitOn_new (h : GM w0 hb n R hcap X u wl V rv ready w) (i r : Nat) (hi : i < R) (hr : r < n) (hX : X r = false) (hu : u i ≤ 1048576) (hw : (wl r).length ≤ 2097152) :
    Calls Try.prog 44 #[.int .i64 (i : Int), .int .i64 (r : Int), .pointer (some ⟨w0.heap.size, 0, none⟩), .pointer (some ⟨w0.heap.size + 2, 0, none⟩), .pointer (some ⟨w0.heap.size + 4, 0, none⟩)] w fun e w' => e = .returned (.tuple #[]) ∧ ∃ V', GM w0 hb n R hcap X (Plain.upd u i (u i + 1)) (Plain.upd wl r (wl r ++ [i])) V' rv ready w' ∧ Spares w0 n V w w' ∧ w.heap.size ≤ w'.heap.size := by
  have c1 := cell_of_one h.box
  have c2 := h.held.cell hr
  simp only [hX] at c2
  have c3 := cell_of_one h.unv
  have c4 := h.un.cell hi
  have c5 := h.un.frozen i
  have H1 := h.count i (u i + 1)
  have e1 : ((u i + 1 : Nat) : Int) = (u i : Int) + 1 := by omega
  rw [e1] at H1
  obtain ⟨i0, hi0, hz0, hz1, hz2⟩ := info_parts Try.info3
  have j1 : (0 : Int) ≤ (r : Int) := by omega
  have j2 : (r : Int) < (n : Int) := by omega
  clear h hX e1
  go_enter Try.func44, Try.ntmps44
  go_wp2_with fail
  generalize hW : w.setCell ⟨w0.heap.size + 1, i, none⟩ (.int .i64 ((u i : Int) + 1)) = W at H1 ⊢
  have HW := hid hW
  clear hW
  clear c1 c2 c3 c4 c5
  have k1 := cell_of_one H1.wav
  have k2 := H1.wa.cell hr
  have k3 := H1.wa.frozen r
  have hsz := H1.size
  have l1 : w0.heap.size + 4 < W.heap.size := by omega
  have l2 : w0.heap.size + 3 < W.heap.size := by omega
  have hVlt := (H1.own r hr).lt
  have ag : (V r).ownBlock ≠ some (w0.heap.size + 4) := fun e => by have := (hVlt _ e).1; omega
  have ak : (V r).ownBlock ≠ some (w0.heap.size + 3) := fun e => by have := (hVlt _ e).1; omega
  have hown := H1.own r hr
  have k4 : ∀ o, (W.alloc o).frozen? ⟨w0.heap.size + 3, r, none⟩ = false := fun o => (H1.wa.alloc o).frozen r
  have HG := hid H1
  clear H1 hVlt
  go_region_law (refine step_append_lies _ (by rfl) _ _ _ (by rfl) (w0.heap.size + 5) 3 i0 _ 1 8 Try.underlying64 hi0 hz0 hz1 hz2 rfl (by omega) (V r) (wl r).length (ints (wl r)) (by simp [Act.eval]) ((hown.alloc _).drew) ⟨W.heap.size, 0, none⟩ 1 1 [.int .i64 (i : Int)] (by simp [Act.eval]) (by rfl) (World.news_of_block (cs := #[.int .i64 (i : Int)]) (t := 3) (fr := (0, 0)) (heap_alloc_new W _)) (by simp [Value.oneCell']) (by omega) (by unfold maxLen; omega) (by omega) (by simp; omega) (W.heap.size + 1) (by simp) ?_; intro gg cap w1 hown1 hgrow hat hlt; have m1 : w1.cell? ⟨w0.heap.size + 4, 0, none⟩ = some (.slice (some ⟨w0.heap.size + 3, 0, none⟩) n n) := (hgrow.cell_far _ (by simp; omega) (Ne.symm ag)).trans (cell_alloc k1 _); have m2 : w1.cell? ⟨w0.heap.size + 3, r, none⟩ = some (V r) := (hgrow.cell_far _ (by simp; omega) (Ne.symm ak)).trans (cell_alloc k2 _); have m3 : w1.frozen? ⟨w0.heap.size + 3, r, none⟩ = false := (hgrow.frozen_far _ (by simp; omega) (Ne.symm ak)).trans (k4 _))
  all_goals
    go_wp2
    go_end0
    exact ⟨rfl, _, HG.out.wait hr hown1 hgrow hat, spares_of hr HW.out hgrow, size_of HW.out hgrow⟩
end

/-! ### The first loop's book-keeping -/

/-- How many roles the first k rules may ask for. -/
def askTo (c : CA) (k : Nat) : Nat := sumTo (fun i => c.pl i + 1) k

theorem askTo_succ (c : CA) (k : Nat) : askTo c (k + 1) = askTo c k + (c.pl k + 1) := rfl

/-- K RULES HAVE ASKED. -/
structure L1 (adm : Option (Nat → Bool)) (c : CA) (H : Nat → Bool) (k : Nat) (pr : Nat → List Nat) (u : Nat → Nat) (wl : Nat → List Nat) (ready : List Nat) : Prop where
  built : Plain.Built H c.n pr u wl
  full : ∀ i, i < k → Plain.active adm (ruleOf c i) = true → pr i = Plain.need adm (ruleOf c i)
  idle : ∀ i, i < k → Plain.active adm (ruleOf c i) = false → pr i = []
  todo : ∀ i, k ≤ i → pr i = []
  rdy : ∀ i, i ∈ ready ↔ i < k ∧ Plain.active adm (ruleOf c i) = true ∧ u i = 0
  rlen : ready.length ≤ k
  wlen : ∀ r, (wl r).length ≤ askTo c k

/-- RULE k IS ASKING: so far for the roles q. -/
structure L1m (adm : Option (Nat → Bool)) (c : CA) (H : Nat → Bool) (k : Nat) (pr : Nat → List Nat) (u : Nat → Nat) (wl : Nat → List Nat) (ready : List Nat) (q : List Nat) : Prop where
  built : Plain.Built H c.n pr u wl
  full : ∀ i, i < k → Plain.active adm (ruleOf c i) = true → pr i = Plain.need adm (ruleOf c i)
  idle : ∀ i, i < k → Plain.active adm (ruleOf c i) = false → pr i = []
  now : pr k = q
  todo : ∀ i, k + 1 ≤ i → pr i = []
  rdy : ∀ i, i ∈ ready ↔ i < k ∧ Plain.active adm (ruleOf c i) = true ∧ u i = 0
  rlen : ready.length ≤ k
  wlen : ∀ r, (wl r).length ≤ askTo c k + q.length

section
variable {adm : Option (Nat → Bool)} {c : CA} {H : Nat → Bool} {k : Nat} {pr : Nat → List Nat} {u : Nat → Nat} {wl : Nat → List Nat} {ready : List Nat} {q : List Nat}

theorem L1.start (adm : Option (Nat → Bool)) (c : CA) (H : Nat → Bool) : L1 adm c H 0 (fun _ => []) (fun _ => 0) (fun _ => []) [] :=
  ⟨Plain.Built.start H c.n, fun i hi => by omega, fun i hi => by omega, fun _ _ => rfl, fun i => ⟨fun h => by simp at h, fun h => by omega⟩, Nat.le_refl _, fun r => Nat.zero_le _⟩

/-- A rule that is not active is passed over. -/
theorem L1.skip (h : L1 adm c H k pr u wl ready) (ha : Plain.active adm (ruleOf c k) = false) : L1 adm c H (k + 1) pr u wl ready := by
  refine ⟨h.built, fun i hi hact => ?_, fun i hi hact => ?_, fun i hi => h.todo i (by omega), fun i => ?_, Nat.le_succ_of_le h.rlen, fun r => Nat.le_trans (h.wlen r) (by rw [askTo_succ]; omega)⟩
  · by_cases e : i = k
    · subst e; rw [ha] at hact; cases hact
    · exact h.full i (by omega) hact
  · by_cases e : i = k
    · subst e; exact h.todo i (Nat.le_refl _)
    · exact h.idle i (by omega) hact
  · rw [h.rdy]
    constructor
    · rintro ⟨h1, h2⟩; exact ⟨by omega, h2⟩
    · rintro ⟨h1, h2, h3⟩
      by_cases e : i = k
      · subst e; rw [ha] at h2; cases h2
      · exact ⟨by omega, h2, h3⟩

theorem L1.open_ (h : L1 adm c H k pr u wl ready) : L1m adm c H k pr u wl ready [] :=
  ⟨h.built, h.full, h.idle, h.todo k (Nat.le_refl _), fun i hi => h.todo i (by omega), h.rdy, h.rlen, h.wlen⟩

theorem L1m.askHeld (h : L1m adm c H k pr u wl ready q) (r : Nat) (hr : H r = true) : L1m adm c H k (Plain.upd pr k (q ++ [r])) u wl ready (q ++ [r]) := by
  have hb := h.built.askHeld k r hr
  rw [h.now] at hb
  refine ⟨hb, fun i hi ha => ?_, fun i hi ha => ?_, Plain.upd_same _ _ _, fun i hi => ?_, h.rdy, h.rlen, fun r => Nat.le_trans (h.wlen r) (by simp)⟩
  · rw [Plain.upd_other _ _ (by omega)]; exact h.full i hi ha
  · rw [Plain.upd_other _ _ (by omega)]; exact h.idle i hi ha
  · rw [Plain.upd_other _ _ (by omega)]; exact h.todo i hi

theorem L1m.askNew (h : L1m adm c H k pr u wl ready q) (r : Nat) (hk : k < c.n) (hr : H r = false) : L1m adm c H k (Plain.upd pr k (q ++ [r])) (Plain.upd u k (u k + 1)) (Plain.upd wl r (wl r ++ [k])) ready (q ++ [r]) := by
  have hb := h.built.askNew k r hk hr
  rw [h.now] at hb
  refine ⟨hb, fun i hi ha => ?_, fun i hi ha => ?_, Plain.upd_same _ _ _, fun i hi => ?_, fun i => ?_, h.rlen, fun q' => ?_⟩
  · rw [Plain.upd_other _ _ (by omega)]; exact h.full i hi ha
  · rw [Plain.upd_other _ _ (by omega)]; exact h.idle i hi ha
  · rw [Plain.upd_other _ _ (by omega)]; exact h.todo i hi
  · rw [h.rdy]
    constructor
    · rintro ⟨h1, h2, h3⟩; exact ⟨h1, h2, by rw [Plain.upd_other _ _ (by omega)]; exact h3⟩
    · rintro ⟨h1, h2, h3⟩; exact ⟨h1, h2, by rw [Plain.upd_other _ _ (by omega)] at h3; exact h3⟩
  · have := h.wlen q'
    by_cases e : q' = r
    · subst e; rw [Plain.upd_same]; simp; omega
    · rw [Plain.upd_other _ _ e]; simp; omega

theorem L1m.count_le (h : L1m adm c H k pr u wl ready q) : u k ≤ q.length := by
  rw [h.built.cnt k, h.now]
  exact Plain.unmet_le _ _

/-- The rule has asked for all, and waits. -/
theorem L1m.wait (h : L1m adm c H k pr u wl ready q) (ha : Plain.active adm (ruleOf c k) = true) (hq : q = Plain.need adm (ruleOf c k)) (hl : q.length ≤ c.pl k + 1) (hu : u k ≠ 0) : L1 adm c H (k + 1) pr u wl ready := by
  refine ⟨h.built, fun i hi hact => ?_, fun i hi hact => ?_, h.todo, fun i => ?_, Nat.le_succ_of_le h.rlen, fun r => Nat.le_trans (h.wlen r) (by rw [askTo_succ]; omega)⟩
  · by_cases e : i = k
    · subst e; rw [h.now, hq]
    · exact h.full i (by omega) hact
  · by_cases e : i = k
    · subst e; rw [ha] at hact; cases hact
    · exact h.idle i (by omega) hact
  · rw [h.rdy]
    constructor
    · rintro ⟨h1, h2⟩; exact ⟨by omega, h2⟩
    · rintro ⟨h1, h2, h3⟩
      by_cases e : i = k
      · subst e; exact absurd h3 hu
      · exact ⟨by omega, h2, h3⟩

/-- The rule has asked for all, and is ready. -/
theorem L1m.goes (h : L1m adm c H k pr u wl ready q) (ha : Plain.active adm (ruleOf c k) = true) (hq : q = Plain.need adm (ruleOf c k)) (hl : q.length ≤ c.pl k + 1) (hu : u k = 0) : L1 adm c H (k + 1) pr u wl (ready ++ [k]) := by
  refine ⟨h.built, fun i hi hact => ?_, fun i hi hact => ?_, h.todo, fun i => ?_, by have := h.rlen; simp; exact this, fun r => Nat.le_trans (h.wlen r) (by rw [askTo_succ]; omega)⟩
  · by_cases e : i = k
    · subst e; rw [h.now, hq]
    · exact h.full i (by omega) hact
  · by_cases e : i = k
    · subst e; rw [ha] at hact; cases hact
    · exact h.idle i (by omega) hact
  · rw [List.mem_append, h.rdy]
    constructor
    · rintro (⟨h1, h2⟩ | h1)
      · exact ⟨by omega, h2⟩
      · simp at h1; subst h1; exact ⟨by omega, ha, hu⟩
    · rintro ⟨h1, h2, h3⟩
      by_cases e : i = k
      · subst e; exact .inr (by simp)
      · exact .inl ⟨by omega, h2, h3⟩

/-- All rules have asked: the run can begin. -/
theorem L1.run {n : Nat} (h : L1 adm c H c.n pr u wl ready) : Plain.Run n adm (ruleOf c) c.n H H pr u ready :=
  ⟨fun i _ => h.built.cnt i, h.full, h.idle, fun i hi ha hu => .inr ((h.rdy i).2 ⟨hi, ha, hu⟩), fun i hi => (h.rdy i).1 hi, fun _ _ hx => hx, Plain.Reached.self _ _ _ _ _⟩
end

/-- The roles that rule k asks for among its first j literals. -/
def reqTo (c : CA) (k j : Nat) : List Nat := ((List.range j).filter fun j => !c.ln k j).map fun j => (c.lr k j).toNat
theorem reqTo_all (c : CA) (k : Nat) : reqTo c k (c.pl k) = (ruleOf c k).req := rfl
theorem reqTo_neg (c : CA) (k j : Nat) (h : c.ln k j = true) : reqTo c k (j + 1) = reqTo c k j := by simp [reqTo, List.range_succ, List.filter_append, h]
theorem reqTo_pos (c : CA) (k j : Nat) (h : c.ln k j = false) : reqTo c k (j + 1) = reqTo c k j ++ [(c.lr k j).toNat] := by simp [reqTo, List.range_succ, List.filter_append, h]
theorem reqTo_length (c : CA) (k j : Nat) : (reqTo c k j).length ≤ j := by
  have := List.length_filter_le (fun j => !c.ln k j) (List.range j)
  simp [reqTo]
  simpa using this

/-- THE CLOSURE's CALL, as the first loop uses it. -/
theorem waitOn {w0 w : World} {hb n hcap : Nat} {H : Nat → Bool} {u : Nat → Nat} {wl : Nat → List Nat} {V : Nat → Value} {rv : Value} {ready : List Nat} {adm : Option (Nat → Bool)} {c : CA} {k : Nat} {pr : Nat → List Nat} {q : List Nat}
    (h : GM w0 hb n c.n hcap H u wl V rv ready w) (hm : L1m adm c H k pr u wl ready q) (hk : k < c.n) (r : Nat) (hr : r < n) (hq : q.length ≤ c.pl k) (hp : c.pl k ≤ 1048576) (hS : askTo c c.n ≤ 2097152) :
    Calls Try.prog 44 #[.int .i64 (k : Int), .int .i64 (r : Int), .pointer (some ⟨w0.heap.size, 0, none⟩), .pointer (some ⟨w0.heap.size + 2, 0, none⟩), .pointer (some ⟨w0.heap.size + 4, 0, none⟩)] w fun e w' =>
      e = .returned (.tuple #[]) ∧ (∃ pr' u' wl' V', GM w0 hb n c.n hcap H u' wl' V' rv ready w' ∧ L1m adm c H k pr' u' wl' ready (q ++ [r])) ∧ Spares w0 n V w w' ∧ w.heap.size ≤ w'.heap.size := by
  cases hX : H r with
  | true =>
    refine (waitOn_held h k r hr hX).mono ?_
    rintro e w' ⟨rfl, rfl⟩
    exact ⟨rfl, ⟨_, u, wl, V, h, hm.askHeld r hX⟩, Spares.refl _ _ _ _, Nat.le_refl _⟩
  | false =>
    have hs : (wl r).length ≤ 2097152 := by
      have h1 := hm.wlen r
      have h2 : askTo c (k + 1) ≤ askTo c c.n := sumTo_mono _ (by omega)
      rw [askTo_succ] at h2
      omega
    refine (waitOn_new h k r hk hr hX (by have := hm.count_le; omega) hs).mono ?_
    rintro e w' ⟨rfl, V', hg, hsp, hsz⟩
    exact ⟨rfl, ⟨_, _, _, V', hg, hm.askNew r hk hX⟩, hsp, hsz⟩
end Go.Proofs.Qxb6605479a
