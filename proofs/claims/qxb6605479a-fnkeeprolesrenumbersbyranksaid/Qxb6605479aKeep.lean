/-
  keepRoles, walked.
-/
import Derived.Test.Qxb6605479aRules
namespace Go.Proofs.Qxb6605479a
open Go.RowKit

set_option linter.unusedSimpArgs false in
set_option maxHeartbeats 8000000 in
set_option maxRecDepth 4000 in
theorem keepRoles (w : World) (pb : Nat) (ra : Option Addr) (rb ro n rcap : Nat) (S : Nat → ByteArray) (us : Value) (ma : Option Addr) (mb mo mcap : Nat) (M : Nat → Bool) (ua : Option Addr) (ub uo un ucap : Nat) (X Y : Nat → Int) (goal : Nat) (fa : Option Addr) (fb fo fcap : Nat) (c : CA) (ka : Option Addr) (kb ko kn kcap : Nat) (A R : Nat → Int)
    (I : KIn w pb ra rb ro n rcap S us ma mb mo mcap M ua ub uo un ucap X Y goal fa fb fo fcap c ka kb ko kn kcap A R) :
    Calls Try.prog 43 #[.pointer (some ⟨pb, 0, none⟩), .slice ma n mcap, .slice fa c.n fcap, .slice ka kn kcap] w fun e w' => e = .returned (.pointer (some ⟨w.heap.size, 0, none⟩)) ∧ KOut w w' n S us M un X Y goal c kn A R := by
  have J := hid I
  have c0 := I.p0
  have c1 := I.p1
  have c5 := I.p5
  have hn := I.hn
  obtain ⟨us1, us2, us3, rfl⟩ := I.uo1
  have hg := I.hg
  clear I
  have hmk := mk_any 64 3 1 8 (.int .i64 0) Try.underlying64 Try.info3 n (by omega) (by omega)
  rw [Nat.mul_one] at hmk
  obtain ⟨i9, hi9, hy0, hy1, hy2⟩ := info_parts Try.info9
  have c0a : ∀ o, (w.alloc o).cell? ⟨pb, 0, none⟩ = some (.slice ra n rcap) := fun o => cell_alloc c0 o
  have c0b : ∀ o o', ((w.alloc o).alloc o').cell? ⟨pb, 0, none⟩ = some (.slice ra n rcap) := fun o o' => cell_alloc (cell_alloc c0 o) o'
  go_enter Try.func43, Try.ntmps43
  go_wp2_with fail
  generalize hw1 : (w.alloc (.cells #[.slice none 0 0, .slice us1 us2 us3, .slice none 0 0, .slice none 0 0, .slice none 0 0, .int .i64 0] 62)).alloc (.cells (zrow (.int .i64 0) n) 3) = w1
  have hs1 : w1.heap.size = w.heap.size + 1 + 1 := by rw [← hw1]; simp
  have BX : Hid (w1.rowIs w.heap.size 62 6 (boxf (.slice us1 us2 us3))) := hid (by rw [← hw1]; exact (box_made w (.slice us1 us2 us3)).alloc _)
  have R0 : Hid (Ren w1 (w.heap.size + 1) n M 0) := hid (by rw [← hw1]; exact ren_start _ _ n M (by simp))
  have Q1 : Hid (Below w.heap.size w w1) := hid (by rw [← hw1]; exact ((Below.refl _ _).alloc (Nat.le_refl _) _).alloc (by simp) _)
  clear hw1 c0 c0a c0b c1 hmk
  go_loopw [39] (fun i wr => ∃ k : Nat, k ≤ n ∧ i = .int .i64 k ∧ (∃ v, Ph (fun b => b = w.heap.size ∨ b = w.heap.size + 1) w1 wr w.heap.size 0 (boxf (.slice us1 us2 us3)) 9 1 v (cnt M k) (pick M (fun i => [.string (S i)]) k)) ∧ Ren wr (w.heap.size + 1) n M k) (fun i _ => n - (intOf i).toNat)
  case atStart => exact ⟨0, Nat.zero_le _, rfl, ⟨_, Ph.start BX.out rfl (.inl rfl)⟩, R0.out⟩
  case round =>
    obtain ⟨k, hk, rfl, ⟨v, hph⟩, hren⟩ := hrel
    have hck := cnt_le M k
    by_cases hlt : k < n
    · have hra := J.out.rA (by omega)
      have hma := J.out.mA (by omega)
      subst hra hma
      have hks := hph.kept
      have hsz := hks.size
      have lw : ∀ {a : Addr} {x : Value}, w.cell? a = some x → wr.cell? a = some x := fun {a x} h => by
        have hb := World.block_lt_of_cell? w a h
        refine hks.cell (cell_below Q1.out h) (fun e => ?_)
        rcases e with e | e <;> omega
      have r1 := lw (J.out.rv k hlt)
      have m1 := lw (J.out.mv k hlt)
      clear lw hks
      cases hm : M k with
      | false =>
        rw [hm] at m1
        have HM := hid hm
        have PH := hid hph
        have RE := hid hren
        clear hph hren hm
        go_wp2_with fail
        go_roundw
        case rel => exact ⟨k + 1, by omega, by go_num, ⟨v, by rw [cnt_neg HM.out, pick_neg HM.out]; exact PH.out⟩, RE.out.skip hlt HM.out⟩
        case measure => simp [intOf]; omega
      | true =>
        rw [hm] at m1
        obtain ⟨av, gv, cv, rfl, _, _, _, _⟩ := own_view hph.own hph.nl
        have b0 := hph.box.cell (i := 0) (by omega)
        have RE := hid hren
        obtain ⟨fr, hr1, _, _⟩ := hren
        have x1 := hr1.cell hlt
        have x2 := hr1.frozen k
        have HM := hid hm
        have PH := hid (hph.set (a := ⟨w.heap.size + 1, k, none⟩) (by simp) (own_ne hph (by show w.heap.size + 1 < w1.heap.size; omega)) (.inr (.inr rfl)) (.int .i64 (cnt M k : Int)))
        simp only [if_true] at b0
        clear hph hm hr1
        go_wp2_with (at_builtin; refine wpList_append_lies _ rfl (.tmp 60) (.tmp 62) 51 rfl w1.heap.size 9 i9 (.string ⟨#[]⟩) 1 16 Try.underlying51 hi9 hy0 hy1 hy2 rfl (by omega) (.slice av (cnt M k) cv) (cnt M k) (pick M (fun i => [.string (S i)]) k) (by rfl) (PH.out.own.alloc _) ⟨wr.heap.size, 0, none⟩ 1 1 [.string (S k)] (by rfl) (by rfl) (World.news_of_block (cs := #[.string (S k)]) (t := 9) (fr := (0, 0)) (by have := heap_alloc_new (wr.setCell ⟨w.heap.size + 1, k, none⟩ (.int .i64 (cnt M k : Int))) (.cells #[.string (S k)] 9); simpa [World.setCell] using this)) (by simp [Value.oneCell']) (by omega) (by unfold maxLen; omega) (by omega) (by simp [World.setCell]; omega) (wr.heap.size + 1) (by simp [World.setCell]) ?_; intro gg cap w2 hown1 hgrow hat hlt1; have hb2 := (PH.out.alloc _).boxIn hgrow; have e1 := hb2.cell (i := 0) (by omega); have e2 := hb2.frozen 0; have HO := hid hown1; have HGR := hid hgrow; have HAT := hid hat; clear hown1 hgrow hat hb2)
        go_roundw
        case rel =>
          refine ⟨k + 1, by omega, by go_num, ⟨_, by rw [cnt_pos HM.out, pick_pos HM.out]; exact (PH.out.alloc _).push HO.out HGR.out ((PH.out.alloc (.cells #[.string (S k)] 9)).le HAT.out (by omega))⟩, ?_⟩
          have hne : (Value.slice av (cnt M k) cv).ownBlock ≠ some (w.heap.size + 1) := own_ne PH.out (by omega)
          refine (RE.out.put HM.out).of_block ?_
          rw [Below.heap_setCell _ _ _ _ (by show w.heap.size + 1 ≠ w.heap.size; omega), HGR.out.block _ (by simp [World.setCell]; omega) (fun e => hne e.symm)]
          exact Below.heap_alloc _ _ _ (by simp [World.setCell]; omega)
        case measure => simp [intOf]; omega
    · obtain rfl : n = k := by omega
      obtain ⟨wa, hwa⟩ : ∃ x, x = wr := ⟨_, rfl⟩
      subst hwa
      have hsz := hph.kept.size
      have c5' : wa.cell? ⟨pb, 5, none⟩ = some (.int .i64 (goal : Int)) := hph.kept.cell (cell_below Q1.out c5) (fun e => by
        have hb := World.block_lt_of_cell? w _ c5
        have e' : pb = w.heap.size ∨ pb = w.heap.size + 1 := e
        have hb' : pb < w.heap.size := hb
        omega)
      obtain ⟨fr, hr1, hr2, _⟩ := hren
      have x1 := hr1.cell (i := goal) hg
      rw [hr2 goal hg] at x1
      have b5 := hph.box.cell (i := 5) (by omega)
      have b5z := hph.box.frozen 5
      have l1 : w.heap.size < wa.heap.size := by omega
      have c2' : wa.cell? ⟨pb, 2, none⟩ = some (.slice ua un ucap) := hph.kept.cell (cell_below Q1.out J.out.p2) (fun e => by
        have hb := World.block_lt_of_cell? w _ c5
        have e' : pb = w.heap.size ∨ pb = w.heap.size + 1 := e
        have hb' : pb < w.heap.size := hb
        omega)
      have hpb : pb < w.heap.size := World.block_lt_of_cell? w _ c5
      have hun := J.out.hun
      have PH := hid hph
      have HR1 := hid hr1
      have HR2 := hid hr2
      clear c5 hph hr1 hr2
      go_wp2_with fail
      generalize hw2 : wa.setCell ⟨w.heap.size, 5, none⟩ (.int .i64 (num M goal : Int)) = w2
      obtain ⟨bf, hbf⟩ : ∃ bf : Nat → Value, bf = fun i => if i = 5 then Value.int .i64 (num M goal : Int) else if i = 0 then v else boxf (.slice us1 us2 us3) i := ⟨_, rfl⟩
      have HB2 : Hid (w2.rowIs w.heap.size 62 6 bf) := hid (by rw [← hw2, hbf]; exact PH.out.box.set 5 _)
      have HREN : Hid (w2.rowIs (w.heap.size + 1) 3 n (fun i => .int .i64 (num M i : Int))) := hid (by rw [← hw2]; exact (HR1.out.congr HR2.out).setOther (by show w.heap.size + 1 ≠ w.heap.size; omega) _)
      have HO0 : Hid (w2.ownsRow w1.heap.size 9 1 v (cnt M n) (pick M (fun i => [.string (S i)]) n)) := hid (by
        rw [← hw2]
        exact ownsRow_of_block PH.out.own (fun g hg => Below.heap_setCell _ _ _ _ (fun e => own_ne PH.out (b := w.heap.size) (by omega) (by rw [hg, e]))))
      have NL0 := hid PH.out.nl
      have Q2 : Hid (Below w.heap.size w w2) := hid (by
        rw [← hw2]
        refine Below.setCell (Q1.out.trans (PH.out.kept.below (by omega) (fun b hb e => ?_))) (Nat.le_refl _) _
        rcases e with e | e <;> omega)
      have hs2 : w2.heap.size = wa.heap.size := by rw [← hw2]; simp [World.setCell]
      have BF := hid hbf
      have bf2 : bf 2 = .slice none 0 0 := by rw [hbf]; rfl
      have BF2 := hid bf2
      clear hw2 hbf bf2 c5' x1 b5 b5z c2' PH HR1 HR2
      obtain ⟨i68, hi68, hp0, hp1, hp2⟩ := info_parts Try.info68
      go_loopw [82] (fun i wr => ∃ k : Nat, k ≤ un ∧ i = .int .i64 k ∧ ∃ v2, Ph (fun b => b = w.heap.size) w2 wr w.heap.size 2 bf 68 2 v2 (cnt (kp M Y) k) (pick (kp M Y) (uaRow M X Y) k)) (fun i _ => un - (intOf i).toNat)
      case atStart => exact ⟨0, Nat.zero_le _, rfl, _, Ph.start HB2.out BF2.out rfl⟩
      case round =>
        obtain ⟨k, hk, rfl, v2, hph⟩ := hrel
        have hck := cnt_le (kp M Y) k
        by_cases hlt : k < un
        · have hua := J.out.uA (by omega)
          subst hua
          have hks := hph.kept
          have hsz2 := hks.size
          have lw : ∀ {a : Addr} {x : Value}, w.cell? a = some x → wr.cell? a = some x := fun {a x} h => by
            have hb := World.block_lt_of_cell? w a h
            exact hks.cell (cell_below Q2.out h) (fun e => by have e' : a.block = w.heap.size := e; omega)
          have r1 := lw (J.out.uv.x k hlt)
          have r2 := lw (J.out.uv.y k hlt)
          obtain ⟨y, hy⟩ : ∃ y : Nat, Y k = (y : Int) := ⟨(Y k).toNat, by have := (J.out.ur k hlt).1; omega⟩
          have hyn : y < n := by have := (J.out.ur k hlt).2; omega
          have hma := J.out.mA (by omega)
          subst hma
          have m1 : ∀ o, (wr.alloc o).cell? ⟨mb, mo + y, none⟩ = some (.bool (M y)) := fun o => cell_alloc (lw (J.out.mv y hyn)) o
          rw [hy] at r2
          have HY : Hid ((Y k).toNat = y) := hid (by omega)
          clear lw hks
          cases hm : M y with
          | false =>
            rw [hm] at m1
            have HM : Hid (kp M Y k = false) := hid (by show M (Y k).toNat = false; rw [HY.out]; exact hm)
            have PH := hid hph
            clear hph hm hy
            go_wp2_with fail
            go_roundw
            case rel => exact ⟨k + 1, by omega, by go_num, v2, by rw [cnt_neg HM.out, pick_neg HM.out]; exact PH.out.alloc _⟩
            case measure => simp [intOf]; omega
          | true =>
            rw [hm] at m1
            have HM : Hid (kp M Y k = true) := hid (by show M (Y k).toNat = true; rw [HY.out]; exact hm)
            have OWN1 : Hid (v2.ownBlock ≠ some wr.heap.size) := hid (fun e => by have := (hph.own.lt _ e).2; omega)
            have OWN2 : Hid (v2.ownBlock ≠ some (w.heap.size + 1)) := hid (own_ne hph (by omega))
            have PH := hid (hph.alloc (.cells #[.int .i64 (X k), .int .i64 (y : Int)] 68))
            clear hph hm hy
            go_wp2_with fail
            have hc0 := heap_alloc_new wr (.cells #[.int .i64 (X k), .int .i64 (y : Int)] 68)
            generalize hW : wr.alloc (.cells #[.int .i64 (X k), .int .i64 (y : Int)] 68) = W at PH hc0 ⊢
            have hWs : W.heap.size = wr.heap.size + 1 := by rw [← hW]; simp
            clear hW r1 r2 m1
            have g0 := cell_of_row W wr.heap.size 0 _ _ _ hc0
            have g1 := cell_of_row W wr.heap.size 1 _ _ _ hc0
            simp at g0 g1
            have hN := PH.out.kept.row HREN.out (fun e => by have e' : w.heap.size + 1 = w.heap.size := e; omega)
            have x1 := hN.cell (i := y) hyn
            have b2 := PH.out.box.cell (i := 2) (by omega)
            have b2z := PH.out.box.frozen 2
            simp only [if_true] at b2
            have l2 : w.heap.size < W.heap.size := by omega
            have l3 : wr.heap.size < W.heap.size := by omega
            have j1 : (0 : Int) ≤ (y : Int) := by omega
            have j2 : (y : Int) < (n : Int) := by omega
            have b2c : ∀ o, (W.alloc o).cell? ⟨w.heap.size, 2, none⟩ = some v2 := fun o => cell_alloc b2 o
            have b2a : ∀ o, (W.alloc o).frozen? ⟨w.heap.size, 2, none⟩ = false := fun o => (PH.out.box.alloc o).frozen 2
            clear hN hc0
            have ne1 : wr.heap.size ≠ w.heap.size := by omega
            have ne2 : w.heap.size ≠ wr.heap.size := by omega
            have l4 : w.heap.size + 1 < W.heap.size := by omega
            refine wp_region_held_drew (S := fun w' => w'.cell? ⟨wr.heap.size, 0, none⟩ = some (.int .i64 (X k)) ∧ w'.cell? ⟨wr.heap.size, 1, none⟩ = some (.int .i64 (y : Int)) ∧ w'.cell? ⟨w.heap.size + 1, y, none⟩ = some (.int .i64 (num M y : Int))) (by kernel_rfl) ?_ (fun hHeld => ?_)
            · (try dsimp only); go_keep
            refine wpAnyH_take (i := 0) (v := ?_) rfl (by kernel_rfl) (by kernel_rfl) (by kernel_rfl) (fun _ _ _ h => h) (Or.inl ⟨by rfl, ?_⟩) (by assumption) ?_
            rotate_left
            · intro wq hSw; (try dsimp only at hSw); go_simp; try with_reducible rfl
            try simp only [Act.put, List.setIfInBounds_toArray, List.set_cons_zero, List.set_cons_succ]
            refine wpAnyH_take (i := 1) (v := ?_) rfl (by kernel_rfl) (by kernel_rfl) (by kernel_rfl) (fun _ _ _ h => h) (Or.inl ⟨by rfl, ?_⟩) (by assumption) ?_
            rotate_left
            · intro wq hSw; (try dsimp only at hSw); go_simp; try with_reducible rfl
            try simp only [Act.put, List.setIfInBounds_toArray, List.set_cons_zero, List.set_cons_succ]
            refine wpAnyH_take (i := 2) (v := ?_) rfl (by kernel_rfl) (by kernel_rfl) (by kernel_rfl) (fun _ _ _ h => h) (Or.inl ⟨by rfl, ?_⟩) (by assumption) ?_
            rotate_left
            · intro wq hSw; (try dsimp only at hSw); go_simp; try with_reducible rfl
            try simp only [Act.put, List.setIfInBounds_toArray, List.set_cons_zero, List.set_cons_succ]
            refine wpAnyH_take (i := 3) (v := ?_) rfl (by kernel_rfl) (by kernel_rfl) (by kernel_rfl) (fun _ _ _ h => h) (Or.inl ⟨by rfl, ?_⟩) (by assumption) ?_
            rotate_left
            · intro wq hSw; (try dsimp only at hSw); go_simp; try with_reducible rfl
            try simp only [Act.put, List.setIfInBounds_toArray, List.set_cons_zero, List.set_cons_succ]
            refine wpAnyH_take (i := 5) (v := ?_) rfl (by kernel_rfl) (by kernel_rfl) (by kernel_rfl) (fun _ _ _ h => h) (Or.inl ⟨by rfl, ?_⟩) (by assumption) ?_
            rotate_left
            · intro wq hSw; (try dsimp only at hSw); go_simp; try with_reducible rfl
            try simp only [Act.put, List.setIfInBounds_toArray, List.set_cons_zero, List.set_cons_succ]
            refine wpAnyH_take (i := 6) (v := ?_) rfl (by kernel_rfl) (by kernel_rfl) (by kernel_rfl) (fun _ _ _ h => h) (Or.inl ⟨by rfl, ?_⟩) (by assumption) ?_
            rotate_left
            · intro wq hSw; (try dsimp only at hSw); go_simp; try with_reducible rfl
            try simp only [Act.put, List.setIfInBounds_toArray, List.set_cons_zero, List.set_cons_succ]
            refine wpAnyH_take (i := 7) (v := ?_) rfl (by kernel_rfl) (by kernel_rfl) (by kernel_rfl) (fun _ _ _ h => h) (Or.inl ⟨by rfl, ?_⟩) (by assumption) ?_
            rotate_left
            · intro wq hSw; (try dsimp only at hSw); go_simp; try with_reducible rfl
            try simp only [Act.put, List.setIfInBounds_toArray, List.set_cons_zero, List.set_cons_succ]
            refine wpAnyH_take (i := 8) (v := ?_) rfl (by kernel_rfl) (by kernel_rfl) (by kernel_rfl) (fun _ _ _ h => h) (Or.inl ⟨by rfl, ?_⟩) (by assumption) ?_
            rotate_left
            · intro wq hSw; (try dsimp only at hSw); go_simp; try with_reducible rfl
            try simp only [Act.put, List.setIfInBounds_toArray, List.set_cons_zero, List.set_cons_succ]
            refine wpAnyH_take (i := 9) (v := ?_) rfl (by kernel_rfl) (by kernel_rfl) (by kernel_rfl) (fun _ _ _ h => h) (Or.inl ⟨by rfl, ?_⟩) (by assumption) ?_
            rotate_left
            · intro wq hSw; (try dsimp only at hSw); go_simp; try with_reducible rfl
            try simp only [Act.put, List.setIfInBounds_toArray, List.set_cons_zero, List.set_cons_succ]
            refine wpAnyH_take (i := 10) (v := ?_) rfl (by kernel_rfl) (by kernel_rfl) (by kernel_rfl) (fun _ _ _ h => h) (Or.inl ⟨by rfl, ?_⟩) (by assumption) ?_
            rotate_left
            · intro wq hSw; (try dsimp only at hSw); go_simp; try with_reducible rfl
            try simp only [Act.put, List.setIfInBounds_toArray, List.set_cons_zero, List.set_cons_succ]
            refine wpAnyH_take (i := 11) (v := ?_) rfl (by kernel_rfl) (by kernel_rfl) (by kernel_rfl) (fun _ _ _ h => h) (Or.inl ⟨by rfl, ?_⟩) (by assumption) ?_
            rotate_left
            · intro wq hSw; (try dsimp only at hSw); go_simp; try with_reducible rfl
            try simp only [Act.put, List.setIfInBounds_toArray, List.set_cons_zero, List.set_cons_succ]
            refine wpAnyH_take (i := 12) (v := ?_) rfl (by kernel_rfl) (by kernel_rfl) (by kernel_rfl) (fun _ _ _ h => h) (Or.inl ⟨by rfl, ?_⟩) (by assumption) ?_
            rotate_left
            · intro wq hSw; (try dsimp only at hSw); go_simp; try with_reducible rfl
            try simp only [Act.put, List.setIfInBounds_toArray, List.set_cons_zero, List.set_cons_succ]
            refine wpAnyH_ready (rs := [4, 13]) (by kernel_rfl) (by simp) ?_
            refine AllReadyH.cons rfl (fun K hK => ?_) ?_
            · go_simp
              refine hK.out _ _ ?_ (fun hHn => ?_)
              · (try dsimp only); go_keep
              clear hK K hHeld
              have hHeld := hHn
              clear hHn
              refine wpAnyH_ready (rs := [13]) (by kernel_rfl) (by simp) ?_
              refine AllReadyH.cons rfl (fun K hK => ?_) AllReadyH.nil
              go_simp
              refine hK.out _ _ ?_ (fun hHn => ?_)
              · (try dsimp only); go_keep
              clear hK K hHeld
              have hHeld := hHn
              clear hHn
              refine wpAnyH_ready (rs := [14]) (by kernel_rfl) (by simp) ?_
              refine AllReadyH.cons rfl (fun K hK => ?_) AllReadyH.nil
              refine step_append_lies _ (by rfl) _ _ _ (by rfl) w2.heap.size 68 i68 _ 2 16 Try.underlying59 hi68 hp0 hp1 hp2 rfl (by omega) v2 (cnt (kp M Y) k) (pick (kp M Y) (uaRow M X Y) k) (by simp [Act.eval]) ((PH.out.own.alloc _).drew) ⟨W.heap.size, 0, none⟩ 1 1 [.int .i64 (X k), .int .i64 (num M y : Int)] (by simp [Act.eval]) (by rfl) (World.news_of_block (cs := #[.int .i64 (X k), .int .i64 (num M y : Int)]) (t := 68) (fr := (0, 0)) (heap_alloc_new W _)) (by simp [Value.oneCell']) (by omega) (by unfold maxLen; omega) (by omega) (by simp; omega) (W.heap.size + 1) (by simp) ?_
              intro gg cap w3 hown1 hgrow hat hlt1
              have hb3 := ((PH.out.alloc _).drew).boxIn hgrow
              have m2 := hb3.cell (i := 2) (by omega)
              have m3 := hb3.frozen 2
              clear hb3
              have q1 : w3.cell? ⟨wr.heap.size, 0, none⟩ = some (.int .i64 (X k)) := (hgrow.cell_far _ (by simp; omega) (fun e => OWN1.out e.symm)).trans (cell_alloc g0 _)
              have q2 : w3.cell? ⟨wr.heap.size, 1, none⟩ = some (.int .i64 (y : Int)) := (hgrow.cell_far _ (by simp; omega) (fun e => OWN1.out e.symm)).trans (cell_alloc g1 _)
              have q3 : w3.cell? ⟨w.heap.size + 1, y, none⟩ = some (.int .i64 (num M y : Int)) := (hgrow.cell_far _ (by simp; omega) (fun e => OWN2.out e.symm)).trans (cell_alloc x1 _)
              refine hK.out _ _ ?_ (fun hHn => ?_)
              · (try dsimp only); go_keep
              clear hK K hHeld
              have hHeld := hHn
              clear hHn
              refine wpAnyH_take (i := 15) (v := ?_) rfl (by kernel_rfl) (by kernel_rfl) (by kernel_rfl) (fun _ _ _ h => h) (Or.inl ⟨by rfl, ?_⟩) (by assumption) ?_
              rotate_left
              · intro wq hSw; (try dsimp only at hSw); go_simp; try with_reducible rfl
              try simp only [Act.put, List.setIfInBounds_toArray, List.set_cons_zero, List.set_cons_succ]
              refine wpAnyH_take (i := 16) (v := ?_) rfl (by kernel_rfl) (by kernel_rfl) (by kernel_rfl) (fun _ _ _ h => h) (Or.inl ⟨by rfl, ?_⟩) (by assumption) ?_
              rotate_left
              · intro wq hSw; (try dsimp only at hSw); go_simp; try with_reducible rfl
              try simp only [Act.put, List.setIfInBounds_toArray, List.set_cons_zero, List.set_cons_succ]
              refine wpAnyH_ready (rs := [17]) (by kernel_rfl) (by simp) ?_
              refine AllReadyH.cons rfl (fun K hK => ?_) AllReadyH.nil
              go_simp
              refine hK.out _ _ ?_ (fun hHn => ?_)
              · (try dsimp only); go_keep
              clear hK K hHeld
              have hHeld := hHn
              clear hHn
              refine wpAnyH_done (by kernel_rfl) ?_ _
              go_wp2
              go_roundw
              case rel => exact ⟨k + 1, by omega, by go_num, _, by rw [cnt_pos HM.out, pick_pos HM.out, uaRow_at HY.out]; exact ((PH.out.alloc _).drew).push hown1 hgrow (((PH.out.alloc (.cells #[.int .i64 (X k), .int .i64 (num M y : Int)] 68)).drew).le hat (by omega))⟩
              case measure => simp [intOf]; omega
            refine AllReadyH.cons rfl (fun K hK => ?_) AllReadyH.nil
            go_simp
            refine hK.out _ _ ?_ (fun hHn => ?_)
            · (try dsimp only); go_keep
            clear hK K hHeld
            have hHeld := hHn
            clear hHn
            refine wpAnyH_ready (rs := [4]) (by kernel_rfl) (by simp) ?_
            refine AllReadyH.cons rfl (fun K hK => ?_) AllReadyH.nil
            go_simp
            refine hK.out _ _ ?_ (fun hHn => ?_)
            · (try dsimp only); go_keep
            clear hK K hHeld
            have hHeld := hHn
            clear hHn
            refine wpAnyH_ready (rs := [14]) (by kernel_rfl) (by simp) ?_
            refine AllReadyH.cons rfl (fun K hK => ?_) AllReadyH.nil
            refine step_append_lies _ (by rfl) _ _ _ (by rfl) w2.heap.size 68 i68 _ 2 16 Try.underlying59 hi68 hp0 hp1 hp2 rfl (by omega) v2 (cnt (kp M Y) k) (pick (kp M Y) (uaRow M X Y) k) (by simp [Act.eval]) ((PH.out.own.alloc _).drew) ⟨W.heap.size, 0, none⟩ 1 1 [.int .i64 (X k), .int .i64 (num M y : Int)] (by simp [Act.eval]) (by rfl) (World.news_of_block (cs := #[.int .i64 (X k), .int .i64 (num M y : Int)]) (t := 68) (fr := (0, 0)) (heap_alloc_new W _)) (by simp [Value.oneCell']) (by omega) (by unfold maxLen; omega) (by omega) (by simp; omega) (W.heap.size + 1) (by simp) ?_
            intro gg cap w3 hown1 hgrow hat hlt1
            have hb3 := ((PH.out.alloc _).drew).boxIn hgrow
            have m2 := hb3.cell (i := 2) (by omega)
            have m3 := hb3.frozen 2
            clear hb3
            have q1 : w3.cell? ⟨wr.heap.size, 0, none⟩ = some (.int .i64 (X k)) := (hgrow.cell_far _ (by simp; omega) (fun e => OWN1.out e.symm)).trans (cell_alloc g0 _)
            have q2 : w3.cell? ⟨wr.heap.size, 1, none⟩ = some (.int .i64 (y : Int)) := (hgrow.cell_far _ (by simp; omega) (fun e => OWN1.out e.symm)).trans (cell_alloc g1 _)
            have q3 : w3.cell? ⟨w.heap.size + 1, y, none⟩ = some (.int .i64 (num M y : Int)) := (hgrow.cell_far _ (by simp; omega) (fun e => OWN2.out e.symm)).trans (cell_alloc x1 _)
            refine hK.out _ _ ?_ (fun hHn => ?_)
            · (try dsimp only); go_keep
            clear hK K hHeld
            have hHeld := hHn
            clear hHn
            refine wpAnyH_take (i := 15) (v := ?_) rfl (by kernel_rfl) (by kernel_rfl) (by kernel_rfl) (fun _ _ _ h => h) (Or.inl ⟨by rfl, ?_⟩) (by assumption) ?_
            rotate_left
            · intro wq hSw; (try dsimp only at hSw); go_simp; try with_reducible rfl
            try simp only [Act.put, List.setIfInBounds_toArray, List.set_cons_zero, List.set_cons_succ]
            refine wpAnyH_take (i := 16) (v := ?_) rfl (by kernel_rfl) (by kernel_rfl) (by kernel_rfl) (fun _ _ _ h => h) (Or.inl ⟨by rfl, ?_⟩) (by assumption) ?_
            rotate_left
            · intro wq hSw; (try dsimp only at hSw); go_simp; try with_reducible rfl
            try simp only [Act.put, List.setIfInBounds_toArray, List.set_cons_zero, List.set_cons_succ]
            refine wpAnyH_ready (rs := [17]) (by kernel_rfl) (by simp) ?_
            refine AllReadyH.cons rfl (fun K hK => ?_) AllReadyH.nil
            go_simp
            refine hK.out _ _ ?_ (fun hHn => ?_)
            · (try dsimp only); go_keep
            clear hK K hHeld
            have hHeld := hHn
            clear hHn
            refine wpAnyH_done (by kernel_rfl) ?_ _
            go_wp2
            go_roundw
            case rel => exact ⟨k + 1, by omega, by go_num, _, by rw [cnt_pos HM.out, pick_pos HM.out, uaRow_at HY.out]; exact ((PH.out.alloc _).drew).push hown1 hgrow (((PH.out.alloc (.cells #[.int .i64 (X k), .int .i64 (num M y : Int)] 68)).drew).le hat (by omega))⟩
            case measure => simp [intOf]; omega
        · obtain rfl : un = k := by omega
          obtain ⟨wb, hwb⟩ : ∃ x, x = wr := ⟨_, rfl⟩
          subst hwb
          have hkn := J.out.hkn
          have PH2 := hid hph
          have hsz2 := hph.kept.size
          clear hph
          go_wp2_with fail
          obtain ⟨bf3, hbf3⟩ : ∃ bf3 : Nat → Value, bf3 = fun i => if i = 2 then v2 else bf i := ⟨_, rfl⟩
          have HB3 : Hid (wb.rowIs w.heap.size 62 6 bf3) := hid (by rw [hbf3]; exact PH2.out.box)
          have HREN3 : Hid (wb.rowIs (w.heap.size + 1) 3 n (fun i => .int .i64 (num M i : Int))) := hid (PH2.out.kept.row HREN.out (fun e => by have e' : w.heap.size + 1 = w.heap.size := e; omega))
          have HO0b : Hid (wb.ownsRow w1.heap.size 9 1 v (cnt M n) (pick M (fun i => [.string (S i)]) n)) := hid (next_own PH2.out HO0.out (by omega))
          have HO2b : Hid (wb.ownsRow w2.heap.size 68 2 v2 (cnt (kp M Y) un) (pick (kp M Y) (uaRow M X Y) un)) := hid PH2.out.own
          have NL2 := hid PH2.out.nl
          have Q3 : Hid (Below w.heap.size w wb) := hid (Q2.out.trans (PH2.out.kept.below (by omega) (fun b hb e => by have e' : b = w.heap.size := e; omega)))
          have bf33 : bf3 3 = .slice none 0 0 := by rw [hbf3, BF.out]; rfl
          have BF33 := hid bf33
          have BF3 := hid hbf3
          clear hbf3 bf33 PH2
          obtain ⟨i69, hi69, hr0, hr1, hr2⟩ := info_parts Try.info69
          go_loopw [111] (fun i wr => ∃ k : Nat, k ≤ kn ∧ i = .int .i64 k ∧ ∃ v3, Ph (fun b => b = w.heap.size) wb wr w.heap.size 3 bf3 69 2 v3 (cnt (kp M R) k) (pick (kp M R) (crRow M A R) k)) (fun i _ => kn - (intOf i).toNat)
          case atStart => exact ⟨0, Nat.zero_le _, rfl, _, Ph.start HB3.out BF33.out rfl⟩
          case round =>
            obtain ⟨k, hk, rfl, v3, hph⟩ := hrel
            have hck := cnt_le (kp M R) k
            by_cases hlt : k < kn
            · have hka := J.out.kA (by omega)
              subst hka
              have hks := hph.kept
              have hsz3 := hks.size
              have lw : ∀ {a : Addr} {x : Value}, w.cell? a = some x → wr.cell? a = some x := fun {a x} h => by
                have hb := World.block_lt_of_cell? w a h
                exact hks.cell (cell_below Q3.out h) (fun e => by have e' : a.block = w.heap.size := e; omega)
              have r1 := lw (J.out.kv.x k hlt)
              have r2 := lw (J.out.kv.y k hlt)
              obtain ⟨x, hx⟩ : ∃ x : Nat, A k = (x : Int) := ⟨(A k).toNat, by have := (J.out.kr k hlt).1.1; omega⟩
              have hxn : x < n := by have := (J.out.kr k hlt).1.2; omega
              obtain ⟨y, hy⟩ : ∃ y : Nat, R k = (y : Int) := ⟨(R k).toNat, by have := (J.out.kr k hlt).2.1; omega⟩
              have hyn : y < n := by have := (J.out.kr k hlt).2.2; omega
              have hma := J.out.mA (by omega)
              subst hma
              have m1 : ∀ o, (wr.alloc o).cell? ⟨mb, mo + y, none⟩ = some (.bool (M y)) := fun o => cell_alloc (lw (J.out.mv y hyn)) o
              rw [hy] at r2
              rw [hx] at r1
              have HX : Hid ((A k).toNat = x) := hid (by omega)
              have HY : Hid ((R k).toNat = y) := hid (by omega)
              clear lw hks
              cases hm : M y with
              | false =>
                rw [hm] at m1
                have HM : Hid (kp M R k = false) := hid (by show M (R k).toNat = false; rw [HY.out]; exact hm)
                have PH := hid hph
                clear hph hm hy hx
                go_wp2_with fail
                go_roundw
                case rel => exact ⟨k + 1, by omega, by go_num, v3, by rw [cnt_neg HM.out, pick_neg HM.out]; exact PH.out.alloc _⟩
                case measure => simp [intOf]; omega
              | true =>
                rw [hm] at m1
                have HM : Hid (kp M R k = true) := hid (by show M (R k).toNat = true; rw [HY.out]; exact hm)
                have OWN1 : Hid (v3.ownBlock ≠ some wr.heap.size) := hid (fun e => by have := (hph.own.lt _ e).2; omega)
                have OWN2 : Hid (v3.ownBlock ≠ some (w.heap.size + 1)) := hid (own_ne hph (by omega))
                have PH := hid (hph.alloc (.cells #[.int .i64 (x : Int), .int .i64 (y : Int)] 69))
                clear hph hm hy hx
                go_wp2_with fail
                have hc0 := heap_alloc_new wr (.cells #[.int .i64 (x : Int), .int .i64 (y : Int)] 69)
                generalize hW : wr.alloc (.cells #[.int .i64 (x : Int), .int .i64 (y : Int)] 69) = W at PH hc0 ⊢
                have hWs : W.heap.size = wr.heap.size + 1 := by rw [← hW]; simp
                clear hW r1 r2 m1
                have g0 := cell_of_row W wr.heap.size 0 _ _ _ hc0
                have g1 := cell_of_row W wr.heap.size 1 _ _ _ hc0
                simp at g0 g1
                have hN := PH.out.kept.row HREN3.out (fun e => by have e' : w.heap.size + 1 = w.heap.size := e; omega)
                have x0 := hN.cell (i := x) hxn
                have x1 := hN.cell (i := y) hyn
                have b2 := PH.out.box.cell (i := 3) (by omega)
                have b2z := PH.out.box.frozen 3
                simp only [if_true] at b2
                have l2 : w.heap.size < W.heap.size := by omega
                have l3 : wr.heap.size < W.heap.size := by omega
                have j1 : (0 : Int) ≤ (y : Int) := by omega
                have j2 : (y : Int) < (n : Int) := by omega
                have j3 : (0 : Int) ≤ (x : Int) := by omega
                have j4 : (x : Int) < (n : Int) := by omega
                have b2c : ∀ o, (W.alloc o).cell? ⟨w.heap.size, 3, none⟩ = some v3 := fun o => cell_alloc b2 o
                have b2a : ∀ o, (W.alloc o).frozen? ⟨w.heap.size, 3, none⟩ = false := fun o => (PH.out.box.alloc o).frozen 3
                clear hN hc0
                have ne1 : wr.heap.size ≠ w.heap.size := by omega
                have ne2 : w.heap.size ≠ wr.heap.size := by omega
                have l4 : w.heap.size + 1 < W.heap.size := by omega
                refine wp_region_held_drew (S := fun w' => w'.cell? ⟨wr.heap.size, 0, none⟩ = some (.int .i64 (x : Int)) ∧ w'.cell? ⟨wr.heap.size, 1, none⟩ = some (.int .i64 (y : Int)) ∧ w'.cell? ⟨w.heap.size + 1, x, none⟩ = some (.int .i64 (num M x : Int)) ∧ w'.cell? ⟨w.heap.size + 1, y, none⟩ = some (.int .i64 (num M y : Int))) (by kernel_rfl) ?_ (fun hHeld => ?_)
                · (try dsimp only); go_keep
                refine wpAnyH_take (i := 0) (v := ?_) rfl (by kernel_rfl) (by kernel_rfl) (by kernel_rfl) (fun _ _ _ h => h) (Or.inl ⟨by rfl, ?_⟩) (by assumption) ?_
                rotate_left
                · intro wq hSw; (try dsimp only at hSw); go_simp; try with_reducible rfl
                try simp only [Act.put, List.setIfInBounds_toArray, List.set_cons_zero, List.set_cons_succ]
                refine wpAnyH_take (i := 1) (v := ?_) rfl (by kernel_rfl) (by kernel_rfl) (by kernel_rfl) (fun _ _ _ h => h) (Or.inl ⟨by rfl, ?_⟩) (by assumption) ?_
                rotate_left
                · intro wq hSw; (try dsimp only at hSw); go_simp; try with_reducible rfl
                try simp only [Act.put, List.setIfInBounds_toArray, List.set_cons_zero, List.set_cons_succ]
                refine wpAnyH_take (i := 2) (v := ?_) rfl (by kernel_rfl) (by kernel_rfl) (by kernel_rfl) (fun _ _ _ h => h) (Or.inl ⟨by rfl, ?_⟩) (by assumption) ?_
                rotate_left
                · intro wq hSw; (try dsimp only at hSw); go_simp; try with_reducible rfl
                try simp only [Act.put, List.setIfInBounds_toArray, List.set_cons_zero, List.set_cons_succ]
                refine wpAnyH_take (i := 3) (v := ?_) rfl (by kernel_rfl) (by kernel_rfl) (by kernel_rfl) (fun _ _ _ h => h) (Or.inl ⟨by rfl, ?_⟩) (by assumption) ?_
                rotate_left
                · intro wq hSw; (try dsimp only at hSw); go_simp; try with_reducible rfl
                try simp only [Act.put, List.setIfInBounds_toArray, List.set_cons_zero, List.set_cons_succ]
                refine wpAnyH_take (i := 5) (v := ?_) rfl (by kernel_rfl) (by kernel_rfl) (by kernel_rfl) (fun _ _ _ h => h) (Or.inl ⟨by rfl, ?_⟩) (by assumption) ?_
                rotate_left
                · intro wq hSw; (try dsimp only at hSw); go_simp; try with_reducible rfl
                try simp only [Act.put, List.setIfInBounds_toArray, List.set_cons_zero, List.set_cons_succ]
                refine wpAnyH_take (i := 6) (v := ?_) rfl (by kernel_rfl) (by kernel_rfl) (by kernel_rfl) (fun _ _ _ h => h) (Or.inl ⟨by rfl, ?_⟩) (by assumption) ?_
                rotate_left
                · intro wq hSw; (try dsimp only at hSw); go_simp; try with_reducible rfl
                try simp only [Act.put, List.setIfInBounds_toArray, List.set_cons_zero, List.set_cons_succ]
                refine wpAnyH_take (i := 7) (v := ?_) rfl (by kernel_rfl) (by kernel_rfl) (by kernel_rfl) (fun _ _ _ h => h) (Or.inl ⟨by rfl, ?_⟩) (by assumption) ?_
                rotate_left
                · intro wq hSw; (try dsimp only at hSw); go_simp; try with_reducible rfl
                try simp only [Act.put, List.setIfInBounds_toArray, List.set_cons_zero, List.set_cons_succ]
                refine wpAnyH_take (i := 8) (v := ?_) rfl (by kernel_rfl) (by kernel_rfl) (by kernel_rfl) (fun _ _ _ h => h) (Or.inl ⟨by rfl, ?_⟩) (by assumption) ?_
                rotate_left
                · intro wq hSw; (try dsimp only at hSw); go_simp; try with_reducible rfl
                try simp only [Act.put, List.setIfInBounds_toArray, List.set_cons_zero, List.set_cons_succ]
                refine wpAnyH_take (i := 9) (v := ?_) rfl (by kernel_rfl) (by kernel_rfl) (by kernel_rfl) (fun _ _ _ h => h) (Or.inl ⟨by rfl, ?_⟩) (by assumption) ?_
                rotate_left
                · intro wq hSw; (try dsimp only at hSw); go_simp; try with_reducible rfl
                try simp only [Act.put, List.setIfInBounds_toArray, List.set_cons_zero, List.set_cons_succ]
                refine wpAnyH_take (i := 10) (v := ?_) rfl (by kernel_rfl) (by kernel_rfl) (by kernel_rfl) (fun _ _ _ h => h) (Or.inl ⟨by rfl, ?_⟩) (by assumption) ?_
                rotate_left
                · intro wq hSw; (try dsimp only at hSw); go_simp; try with_reducible rfl
                try simp only [Act.put, List.setIfInBounds_toArray, List.set_cons_zero, List.set_cons_succ]
                refine wpAnyH_take (i := 11) (v := ?_) rfl (by kernel_rfl) (by kernel_rfl) (by kernel_rfl) (fun _ _ _ h => h) (Or.inl ⟨by rfl, ?_⟩) (by assumption) ?_
                rotate_left
                · intro wq hSw; (try dsimp only at hSw); go_simp; try with_reducible rfl
                try simp only [Act.put, List.setIfInBounds_toArray, List.set_cons_zero, List.set_cons_succ]
                refine wpAnyH_take (i := 12) (v := ?_) rfl (by kernel_rfl) (by kernel_rfl) (by kernel_rfl) (fun _ _ _ h => h) (Or.inl ⟨by rfl, ?_⟩) (by assumption) ?_
                rotate_left
                · intro wq hSw; (try dsimp only at hSw); go_simp; try with_reducible rfl
                try simp only [Act.put, List.setIfInBounds_toArray, List.set_cons_zero, List.set_cons_succ]
                refine wpAnyH_take (i := 13) (v := ?_) rfl (by kernel_rfl) (by kernel_rfl) (by kernel_rfl) (fun _ _ _ h => h) (Or.inl ⟨by rfl, ?_⟩) (by assumption) ?_
                rotate_left
                · intro wq hSw; (try dsimp only at hSw); go_simp; try with_reducible rfl
                try simp only [Act.put, List.setIfInBounds_toArray, List.set_cons_zero, List.set_cons_succ]
                refine wpAnyH_take (i := 14) (v := ?_) rfl (by kernel_rfl) (by kernel_rfl) (by kernel_rfl) (fun _ _ _ h => h) (Or.inl ⟨by rfl, ?_⟩) (by assumption) ?_
                rotate_left
                · intro wq hSw; (try dsimp only at hSw); go_simp; try with_reducible rfl
                try simp only [Act.put, List.setIfInBounds_toArray, List.set_cons_zero, List.set_cons_succ]
                refine wpAnyH_take (i := 15) (v := ?_) rfl (by kernel_rfl) (by kernel_rfl) (by kernel_rfl) (fun _ _ _ h => h) (Or.inl ⟨by rfl, ?_⟩) (by assumption) ?_
                rotate_left
                · intro wq hSw; (try dsimp only at hSw); go_simp; try with_reducible rfl
                try simp only [Act.put, List.setIfInBounds_toArray, List.set_cons_zero, List.set_cons_succ]
                refine wpAnyH_ready (rs := [4, 16]) (by kernel_rfl) (by simp) ?_
                refine AllReadyH.cons rfl (fun K hK => ?_) ?_
                · go_simp
                  refine hK.out _ _ ?_ (fun hHn => ?_)
                  · (try dsimp only); go_keep
                  clear hK K hHeld
                  have hHeld := hHn
                  clear hHn
                  refine wpAnyH_ready (rs := [16]) (by kernel_rfl) (by simp) ?_
                  refine AllReadyH.cons rfl (fun K hK => ?_) AllReadyH.nil
                  go_simp
                  refine hK.out _ _ ?_ (fun hHn => ?_)
                  · (try dsimp only); go_keep
                  clear hK K hHeld
                  have hHeld := hHn
                  clear hHn
                  refine wpAnyH_ready (rs := [17]) (by kernel_rfl) (by simp) ?_
                  refine AllReadyH.cons rfl (fun K hK => ?_) AllReadyH.nil
                  refine step_append_lies _ (by rfl) _ _ _ (by rfl) wb.heap.size 69 i69 _ 2 16 Try.underlying45 hi69 hr0 hr1 hr2 rfl (by omega) v3 (cnt (kp M R) k) (pick (kp M R) (crRow M A R) k) (by simp [Act.eval]) ((PH.out.own.alloc _).drew) ⟨W.heap.size, 0, none⟩ 1 1 [.int .i64 (num M x : Int), .int .i64 (num M y : Int)] (by simp [Act.eval]) (by rfl) (World.news_of_block (cs := #[.int .i64 (num M x : Int), .int .i64 (num M y : Int)]) (t := 69) (fr := (0, 0)) (heap_alloc_new W _)) (by simp [Value.oneCell']) (by omega) (by unfold maxLen; omega) (by omega) (by simp; omega) (W.heap.size + 1) (by simp) ?_
                  intro gg cap w3 hown1 hgrow hat hlt1
                  have hb3 := ((PH.out.alloc _).drew).boxIn hgrow
                  have m2 := hb3.cell (i := 3) (by omega)
                  have m3 := hb3.frozen 3
                  clear hb3
                  have q1 : w3.cell? ⟨wr.heap.size, 0, none⟩ = some (.int .i64 (x : Int)) := (hgrow.cell_far _ (by simp; omega) (fun e => OWN1.out e.symm)).trans (cell_alloc g0 _)
                  have q2 : w3.cell? ⟨wr.heap.size, 1, none⟩ = some (.int .i64 (y : Int)) := (hgrow.cell_far _ (by simp; omega) (fun e => OWN1.out e.symm)).trans (cell_alloc g1 _)
                  have q3 : w3.cell? ⟨w.heap.size + 1, x, none⟩ = some (.int .i64 (num M x : Int)) := (hgrow.cell_far _ (by simp; omega) (fun e => OWN2.out e.symm)).trans (cell_alloc x0 _)
                  have q4 : w3.cell? ⟨w.heap.size + 1, y, none⟩ = some (.int .i64 (num M y : Int)) := (hgrow.cell_far _ (by simp; omega) (fun e => OWN2.out e.symm)).trans (cell_alloc x1 _)
                  refine hK.out _ _ ?_ (fun hHn => ?_)
                  · (try dsimp only); go_keep
                  clear hK K hHeld
                  have hHeld := hHn
                  clear hHn
                  refine wpAnyH_take (i := 18) (v := ?_) rfl (by kernel_rfl) (by kernel_rfl) (by kernel_rfl) (fun _ _ _ h => h) (Or.inl ⟨by rfl, ?_⟩) (by assumption) ?_
                  rotate_left
                  · intro wq hSw; (try dsimp only at hSw); go_simp; try with_reducible rfl
                  try simp only [Act.put, List.setIfInBounds_toArray, List.set_cons_zero, List.set_cons_succ]
                  refine wpAnyH_take (i := 19) (v := ?_) rfl (by kernel_rfl) (by kernel_rfl) (by kernel_rfl) (fun _ _ _ h => h) (Or.inl ⟨by rfl, ?_⟩) (by assumption) ?_
                  rotate_left
                  · intro wq hSw; (try dsimp only at hSw); go_simp; try with_reducible rfl
                  try simp only [Act.put, List.setIfInBounds_toArray, List.set_cons_zero, List.set_cons_succ]
                  refine wpAnyH_ready (rs := [20]) (by kernel_rfl) (by simp) ?_
                  refine AllReadyH.cons rfl (fun K hK => ?_) AllReadyH.nil
                  go_simp
                  refine hK.out _ _ ?_ (fun hHn => ?_)
                  · (try dsimp only); go_keep
                  clear hK K hHeld
                  have hHeld := hHn
                  clear hHn
                  refine wpAnyH_done (by kernel_rfl) ?_ _
                  go_wp2
                  go_roundw
                  case rel => exact ⟨k + 1, by omega, by go_num, _, by rw [cnt_pos HM.out, pick_pos HM.out, crRow_at HX.out HY.out]; exact ((PH.out.alloc _).drew).push hown1 hgrow (((PH.out.alloc (.cells #[.int .i64 (num M x : Int), .int .i64 (num M y : Int)] 69)).drew).le hat (by omega))⟩
                  case measure => simp [intOf]; omega
                refine AllReadyH.cons rfl (fun K hK => ?_) AllReadyH.nil
                go_simp
                refine hK.out _ _ ?_ (fun hHn => ?_)
                · (try dsimp only); go_keep
                clear hK K hHeld
                have hHeld := hHn
                clear hHn
                refine wpAnyH_ready (rs := [4]) (by kernel_rfl) (by simp) ?_
                refine AllReadyH.cons rfl (fun K hK => ?_) AllReadyH.nil
                go_simp
                refine hK.out _ _ ?_ (fun hHn => ?_)
                · (try dsimp only); go_keep
                clear hK K hHeld
                have hHeld := hHn
                clear hHn
                refine wpAnyH_ready (rs := [17]) (by kernel_rfl) (by simp) ?_
                refine AllReadyH.cons rfl (fun K hK => ?_) AllReadyH.nil
                refine step_append_lies _ (by rfl) _ _ _ (by rfl) wb.heap.size 69 i69 _ 2 16 Try.underlying45 hi69 hr0 hr1 hr2 rfl (by omega) v3 (cnt (kp M R) k) (pick (kp M R) (crRow M A R) k) (by simp [Act.eval]) ((PH.out.own.alloc _).drew) ⟨W.heap.size, 0, none⟩ 1 1 [.int .i64 (num M x : Int), .int .i64 (num M y : Int)] (by simp [Act.eval]) (by rfl) (World.news_of_block (cs := #[.int .i64 (num M x : Int), .int .i64 (num M y : Int)]) (t := 69) (fr := (0, 0)) (heap_alloc_new W _)) (by simp [Value.oneCell']) (by omega) (by unfold maxLen; omega) (by omega) (by simp; omega) (W.heap.size + 1) (by simp) ?_
                intro gg cap w3 hown1 hgrow hat hlt1
                have hb3 := ((PH.out.alloc _).drew).boxIn hgrow
                have m2 := hb3.cell (i := 3) (by omega)
                have m3 := hb3.frozen 3
                clear hb3
                have q1 : w3.cell? ⟨wr.heap.size, 0, none⟩ = some (.int .i64 (x : Int)) := (hgrow.cell_far _ (by simp; omega) (fun e => OWN1.out e.symm)).trans (cell_alloc g0 _)
                have q2 : w3.cell? ⟨wr.heap.size, 1, none⟩ = some (.int .i64 (y : Int)) := (hgrow.cell_far _ (by simp; omega) (fun e => OWN1.out e.symm)).trans (cell_alloc g1 _)
                have q3 : w3.cell? ⟨w.heap.size + 1, x, none⟩ = some (.int .i64 (num M x : Int)) := (hgrow.cell_far _ (by simp; omega) (fun e => OWN2.out e.symm)).trans (cell_alloc x0 _)
                have q4 : w3.cell? ⟨w.heap.size + 1, y, none⟩ = some (.int .i64 (num M y : Int)) := (hgrow.cell_far _ (by simp; omega) (fun e => OWN2.out e.symm)).trans (cell_alloc x1 _)
                refine hK.out _ _ ?_ (fun hHn => ?_)
                · (try dsimp only); go_keep
                clear hK K hHeld
                have hHeld := hHn
                clear hHn
                refine wpAnyH_take (i := 18) (v := ?_) rfl (by kernel_rfl) (by kernel_rfl) (by kernel_rfl) (fun _ _ _ h => h) (Or.inl ⟨by rfl, ?_⟩) (by assumption) ?_
                rotate_left
                · intro wq hSw; (try dsimp only at hSw); go_simp; try with_reducible rfl
                try simp only [Act.put, List.setIfInBounds_toArray, List.set_cons_zero, List.set_cons_succ]
                refine wpAnyH_take (i := 19) (v := ?_) rfl (by kernel_rfl) (by kernel_rfl) (by kernel_rfl) (fun _ _ _ h => h) (Or.inl ⟨by rfl, ?_⟩) (by assumption) ?_
                rotate_left
                · intro wq hSw; (try dsimp only at hSw); go_simp; try with_reducible rfl
                try simp only [Act.put, List.setIfInBounds_toArray, List.set_cons_zero, List.set_cons_succ]
                refine wpAnyH_ready (rs := [20]) (by kernel_rfl) (by simp) ?_
                refine AllReadyH.cons rfl (fun K hK => ?_) AllReadyH.nil
                go_simp
                refine hK.out _ _ ?_ (fun hHn => ?_)
                · (try dsimp only); go_keep
                clear hK K hHeld
                have hHeld := hHn
                clear hHn
                refine wpAnyH_done (by kernel_rfl) ?_ _
                go_wp2
                go_roundw
                case rel => exact ⟨k + 1, by omega, by go_num, _, by rw [cnt_pos HM.out, pick_pos HM.out, crRow_at HX.out HY.out]; exact ((PH.out.alloc _).drew).push hown1 hgrow (((PH.out.alloc (.cells #[.int .i64 (num M x : Int), .int .i64 (num M y : Int)] 69)).drew).le hat (by omega))⟩
                case measure => simp [intOf]; omega
            · obtain rfl : kn = k := by omega
              obtain ⟨wc, hwc⟩ : ∃ x, x = wr := ⟨_, rfl⟩
              subst hwc
              have hcn := J.out.hcn
              have PH3 := hid hph
              have hsz3 := hph.kept.size
              clear hph
              go_wp2_with fail
              obtain ⟨bf4, hbf4⟩ : ∃ bf4 : Nat → Value, bf4 = fun i => if i = 3 then v3 else bf3 i := ⟨_, rfl⟩
              have HB4 : Hid (wc.rowIs w.heap.size 62 6 bf4) := hid (by rw [hbf4]; exact PH3.out.box)
              have HREN4 : Hid (wc.rowIs (w.heap.size + 1) 3 n (fun i => .int .i64 (num M i : Int))) := hid (PH3.out.kept.row HREN3.out (fun e => by have e' : w.heap.size + 1 = w.heap.size := e; omega))
              have HO0c : Hid (wc.ownsRow w1.heap.size 9 1 v (cnt M n) (pick M (fun i => [.string (S i)]) n)) := hid (next_own PH3.out HO0b.out (by omega))
              have HO2c : Hid (wc.ownsRow w2.heap.size 68 2 v2 (cnt (kp M Y) un) (pick (kp M Y) (uaRow M X Y) un)) := hid (next_own PH3.out HO2b.out (by omega))
              have HO3c : Hid (wc.ownsRow wb.heap.size 69 2 v3 (cnt (kp M R) kn) (pick (kp M R) (crRow M A R) kn)) := hid PH3.out.own
              have NL3 := hid PH3.out.nl
              have Q4 : Hid (Below w.heap.size w wc) := hid (Q3.out.trans (PH3.out.kept.below (by omega) (fun b hb e => by have e' : b = w.heap.size := e; omega)))
              have bf44 : bf4 4 = .slice none 0 0 := by rw [hbf4, BF3.out, BF.out]; rfl
              have BF44 := hid bf44
              have BF4 := hid hbf4
              clear hbf4 bf44 PH3
              obtain ⟨i72, hi72, ht0, ht1, ht2⟩ := info_parts Try.info72
              go_loopw [143] (fun i wr => ∃ k : Nat, k ≤ c.n ∧ i = .int .i64 k ∧ ∃ v4 pb, PhC wc wr w.heap.size bf4 M c k v4 pb) (fun i _ => c.n - (intOf i).toNat)
              case atStart => exact ⟨0, Nat.zero_le _, rfl, _, fun _ => 0, PhC.start HB4.out BF44.out⟩
              case round =>
                obtain ⟨k, hk, rfl, v4, pbf, hph⟩ := hrel
                have hck := cnt_le (kp M c.ro) k
                by_cases hlt : k < c.n
                · have hfa := J.out.fA (by omega)
                  subst hfa
                  have hks := hph.ph.kept
                  have hsz4 := hks.size
                  have lw : ∀ {a : Addr} {x : Value}, w.cell? a = some x → wr.cell? a = some x := fun {a x} h => by
                    have hb := World.block_lt_of_cell? w a h
                    exact hks.cell (cell_below Q4.out h) (fun e => by have e' : a.block = w.heap.size := e; omega)
                  have r1 := lw (J.out.fv.ad k hlt)
                  have r2 := lw (J.out.fv.pre k hlt)
                  have r3 := lw (J.out.fv.ro k hlt)
                  obtain ⟨x, hx⟩ : ∃ x : Nat, c.ad k = (x : Int) := ⟨(c.ad k).toNat, by have := (J.out.fr k hlt).1.1; omega⟩
                  have hxn : x < n := by have := (J.out.fr k hlt).1.2; omega
                  obtain ⟨y, hy⟩ : ∃ y : Nat, c.ro k = (y : Int) := ⟨(c.ro k).toNat, by have := (J.out.fr k hlt).2.1.1; omega⟩
                  have hyn : y < n := by have := (J.out.fr k hlt).2.1.2; omega
                  have hma := J.out.mA (by omega)
                  subst hma
                  have m1 : ∀ o, (wr.alloc o).cell? ⟨mb, mo + y, none⟩ = some (.bool (M y)) := fun o => cell_alloc (lw (J.out.mv y hyn)) o
                  obtain ⟨pa, hpa⟩ : ∃ pa, c.pa k = pa := ⟨_, rfl⟩
                  have PA : Hid (0 < c.pl k → pa = some ⟨c.pb k, c.po k, none⟩) := hid (fun h => by rw [← hpa]; exact J.out.fv.at_ k hlt h)
                  rw [hx] at r1
                  rw [hpa] at r2
                  rw [hy] at r3
                  have HX : Hid ((c.ad k).toNat = x) := hid (by omega)
                  have HY : Hid ((c.ro k).toNat = y) := hid (by omega)
                  have hpl := J.out.hpl k hlt
                  have LW : Hid (∀ (a : Addr) (x : Value), w.cell? a = some x → wr.cell? a = some x) := hid (fun a x h => lw h)
                  clear lw hks hpa
                  cases hm : M y with
                  | false =>
                    rw [hm] at m1
                    have HM : Hid (kp M c.ro k = false) := hid (by show M (c.ro k).toNat = false; rw [HY.out]; exact hm)
                    have PH := hid hph
                    clear hph hm hy hx
                    go_wp2_with fail
                    go_roundw
                    case rel => exact ⟨k + 1, by omega, by go_num, v4, pbf, (PH.out.alloc _).skip HM.out⟩
                    case measure => simp [intOf]; omega
                  | true =>
                    rw [hm] at m1
                    have hmk2 := mk_any 70 73 2 16 zLit Try.underlying70 Try.info73 (c.pl k) (by omega) (by omega)
                    have HM : Hid (kp M c.ro k = true) := hid (by show M (c.ro k).toNat = true; rw [HY.out]; exact hm)
                    have OWNL : Hid (∀ g, v4.ownBlock = some g → g < wr.heap.size) := hid (fun g hg => (hph.ph.own.lt g hg).2)
                    have OWN1 : Hid (v4.ownBlock ≠ some wr.heap.size) := hid (fun e => by have := (hph.ph.own.lt _ e).2; omega)
                    have OWN2 : Hid (v4.ownBlock ≠ some (w.heap.size + 1)) := hid (own_ne hph.ph (by omega))
                    have PH := hid (hph.alloc (.cells #[.int .i64 (x : Int), .slice pa (c.pl k) (c.pc k), .int .i64 (y : Int)] 72))
                    clear hph hm hy hx
                    go_wp2_with fail
                    have hc0 := heap_alloc_new wr (.cells #[.int .i64 (x : Int), .slice pa (c.pl k) (c.pc k), .int .i64 (y : Int)] 72)
                    have LW2 : Hid (∀ (a : Addr) (u : Value), w.cell? a = some u → (wr.alloc (.cells #[.int .i64 (x : Int), .slice pa (c.pl k) (c.pc k), .int .i64 (y : Int)] 72)).cell? a = some u) := hid (fun a u h => cell_alloc (LW.out a u h) _)
                    generalize hW : wr.alloc (.cells #[.int .i64 (x : Int), .slice pa (c.pl k) (c.pc k), .int .i64 (y : Int)] 72) = W at PH hc0 LW2 ⊢
                    have HWS : Hid (W.heap.size = wr.heap.size + 1) := hid (by rw [← hW]; simp)
                    have hWs : wr.heap.size < W.heap.size := by rw [HWS.out]; omega
                    have HN : Hid (W.rowIs (w.heap.size + 1) 3 n (fun i => .int .i64 (num M i : Int))) := hid (PH.out.ph.kept.row HREN4.out (fun e => by have e' : w.heap.size + 1 = w.heap.size := e; omega))
                    have HC0 := hid hc0
                    clear hW r1 r2 r3 m1 hmk2 hc0
                    obtain ⟨wo, hwo⟩ : ∃ x, x = wr := ⟨_, rfl⟩
                    subst hwo
                    go_loopw [160] (fun j wi => ∃ q : Nat, q ≤ c.pl k ∧ j = .int .i64 q ∧ Below W.heap.size W wi ∧ LitsIs wi (wo.heap.size + 1) 73 (c.pl k) (lrN M c k) (c.ln k) q) (fun j _ => c.pl k - (intOf j).toNat)
                    case atStart => exact ⟨0, Nat.zero_le _, rfl, (Below.refl _ _).alloc (Nat.le_refl _) _, by have h := LitsIs.start W zLit (c.pl k) 73 (lrN M c k) (c.ln k); rw [HWS.out] at h; exact h⟩
                    case round =>
                      obtain ⟨q, hq, rfl, hbl, hli⟩ := hrel
                      obtain ⟨wi, hwi⟩ : ∃ x, x = wr := ⟨_, rfl⟩
                      subst hwi
                      have hszi := hli.lt
                      have hszj := hbl.size
                      by_cases hqt : q < c.pl k
                      · have hpe := PA.out (by omega)
                        subst hpe
                        have c4 := cell_below hbl (LW2.out _ _ (J.out.fv.lr k hlt q hqt))
                        have c5 := cell_below hbl (LW2.out _ _ (J.out.fv.ln k hlt q hqt))
                        obtain ⟨z, hz⟩ : ∃ z : Nat, c.lr k q = (z : Int) := ⟨(c.lr k q).toNat, by have := ((J.out.fr k hlt).2.2 q hqt).1; omega⟩
                        have hzn : z < n := by have := ((J.out.fr k hlt).2.2 q hqt).2; omega
                        rw [hz] at c4
                        have HZ : Hid (lrN M c k q = (num M z : Int)) := hid (by simp [lrN, hz])
                        have HBL := hid hbl
                        have HLI := hid hli
                        have j1 : (0 : Int) ≤ (q : Int) := by omega
                        have j2 : (q : Int) < (c.pl k : Int) := by omega
                        clear hz hbl hli
                        go_wp2_with fail
                        have hv0 := heap_alloc_new wi (.cells #[.int .i64 (z : Int), .bool (c.ln k q)] 73)
                        have HBL2 : Hid (Below W.heap.size W (wi.alloc (.cells #[.int .i64 (z : Int), .bool (c.ln k q)] 73))) := hid (HBL.out.alloc (by omega) _)
                        have HLI2 : Hid (LitsIs (wi.alloc (.cells #[.int .i64 (z : Int), .bool (c.ln k q)] 73)) (wo.heap.size + 1) 73 (c.pl k) (lrN M c k) (c.ln k) q) := hid (HLI.out.of_block (Below.heap_alloc _ _ _ HLI.out.lt))
                        generalize hW2 : wi.alloc (.cells #[.int .i64 (z : Int), .bool (c.ln k q)] 73) = W2 at hv0 HBL2 HLI2 ⊢
                        have hW2s : wi.heap.size < W2.heap.size := by rw [← hW2]; simp
                        clear hW2 c4 c5
                        have g0 := cell_of_row W2 wi.heap.size 0 _ _ _ hv0
                        have g1 := cell_of_row W2 wi.heap.size 1 _ _ _ hv0
                        simp at g0 g1
                        have x0 := cell_below HBL2.out (HN.out.cell (i := z) hzn)
                        obtain ⟨gg, hgr, _⟩ := HLI2.out
                        have d4 := hgr.cell (i := q * 2) (by omega)
                        have d5 := hgr.cell (i := q * 2 + 1) (by omega)
                        have z4 := hgr.frozen (q * 2)
                        have z5 := hgr.frozen (q * 2 + 1)
                        have j3 : (0 : Int) ≤ (z : Int) := by omega
                        have j4 : (z : Int) < (n : Int) := by omega
                        have ne1 : wi.heap.size ≠ wo.heap.size + 1 := by omega
                        have ne2 : wo.heap.size + 1 ≠ wi.heap.size := by omega
                        have ne3 : w.heap.size ≠ wo.heap.size := by omega
                        have ne4 : wo.heap.size ≠ w.heap.size := by omega
                        clear hv0 hgr
                        refine wp_region_held_drew (S := fun w' => w'.cell? ⟨wi.heap.size, 0, none⟩ = some (.int .i64 (z : Int)) ∧ w'.cell? ⟨wi.heap.size, 1, none⟩ = some (.bool (c.ln k q)) ∧ w'.cell? ⟨w.heap.size + 1, z, none⟩ = some (.int .i64 (num M z : Int))) (by kernel_rfl) ?_ (fun hHeld => ?_)
                        · (try dsimp only); go_keep
                        refine wpAnyH_take (i := 0) (v := ?_) rfl (by kernel_rfl) (by kernel_rfl) (by kernel_rfl) (fun _ _ _ h => h) (Or.inl ⟨by rfl, ?_⟩) (by assumption) ?_
                        rotate_left
                        · intro wq hSw; (try dsimp only at hSw); go_simp; try with_reducible rfl
                        try simp only [Act.put, List.setIfInBounds_toArray, List.set_cons_zero, List.set_cons_succ]
                        refine wpAnyH_take (i := 1) (v := ?_) rfl (by kernel_rfl) (by kernel_rfl) (by kernel_rfl) (fun _ _ _ h => h) (Or.inl ⟨by rfl, ?_⟩) (by assumption) ?_
                        rotate_left
                        · intro wq hSw; (try dsimp only at hSw); go_simp; try with_reducible rfl
                        try simp only [Act.put, List.setIfInBounds_toArray, List.set_cons_zero, List.set_cons_succ]
                        refine wpAnyH_take (i := 2) (v := ?_) rfl (by kernel_rfl) (by kernel_rfl) (by kernel_rfl) (fun _ _ _ h => h) (Or.inl ⟨by rfl, ?_⟩) (by assumption) ?_
                        rotate_left
                        · intro wq hSw; (try dsimp only at hSw); go_simp; try with_reducible rfl
                        try simp only [Act.put, List.setIfInBounds_toArray, List.set_cons_zero, List.set_cons_succ]
                        refine wpAnyH_take (i := 3) (v := ?_) rfl (by kernel_rfl) (by kernel_rfl) (by kernel_rfl) (fun _ _ _ h => h) (Or.inl ⟨by rfl, ?_⟩) (by assumption) ?_
                        rotate_left
                        · intro wq hSw; (try dsimp only at hSw); go_simp; try with_reducible rfl
                        try simp only [Act.put, List.setIfInBounds_toArray, List.set_cons_zero, List.set_cons_succ]
                        refine wpAnyH_take (i := 4) (v := ?_) rfl (by kernel_rfl) (by kernel_rfl) (by kernel_rfl) (fun _ _ _ h => h) (Or.inl ⟨by rfl, ?_⟩) (by assumption) ?_
                        rotate_left
                        · intro wq hSw; (try dsimp only at hSw); go_simp; try with_reducible rfl
                        try simp only [Act.put, List.setIfInBounds_toArray, List.set_cons_zero, List.set_cons_succ]
                        refine wpAnyH_take (i := 5) (v := ?_) rfl (by kernel_rfl) (by kernel_rfl) (by kernel_rfl) (fun _ _ _ h => h) (Or.inl ⟨by rfl, ?_⟩) (by assumption) ?_
                        rotate_left
                        · intro wq hSw; (try dsimp only at hSw); go_simp; try with_reducible rfl
                        try simp only [Act.put, List.setIfInBounds_toArray, List.set_cons_zero, List.set_cons_succ]
                        refine wpAnyH_take (i := 6) (v := ?_) rfl (by kernel_rfl) (by kernel_rfl) (by kernel_rfl) (fun _ _ _ h => h) (Or.inl ⟨by rfl, ?_⟩) (by assumption) ?_
                        rotate_left
                        · intro wq hSw; (try dsimp only at hSw); go_simp; try with_reducible rfl
                        try simp only [Act.put, List.setIfInBounds_toArray, List.set_cons_zero, List.set_cons_succ]
                        refine wpAnyH_take (i := 7) (v := ?_) rfl (by kernel_rfl) (by kernel_rfl) (by kernel_rfl) (fun _ _ _ h => h) (Or.inl ⟨by rfl, ?_⟩) (by assumption) ?_
                        rotate_left
                        · intro wq hSw; (try dsimp only at hSw); go_simp; try with_reducible rfl
                        try simp only [Act.put, List.setIfInBounds_toArray, List.set_cons_zero, List.set_cons_succ]
                        refine wpAnyH_take (i := 8) (v := ?_) rfl (by kernel_rfl) (by kernel_rfl) (by kernel_rfl) (fun _ _ _ h => h) (Or.inl ⟨by rfl, ?_⟩) (by assumption) ?_
                        rotate_left
                        · intro wq hSw; (try dsimp only at hSw); go_simp; try with_reducible rfl
                        try simp only [Act.put, List.setIfInBounds_toArray, List.set_cons_zero, List.set_cons_succ]
                        refine wpAnyH_take (i := 9) (v := ?_) rfl (by kernel_rfl) (by kernel_rfl) (by kernel_rfl) (fun _ _ _ h => h) (Or.inl ⟨by rfl, ?_⟩) (by assumption) ?_
                        rotate_left
                        · intro wq hSw; (try dsimp only at hSw); go_simp; try with_reducible rfl
                        try simp only [Act.put, List.setIfInBounds_toArray, List.set_cons_zero, List.set_cons_succ]
                        refine wpAnyH_take (i := 10) (v := ?_) rfl (by kernel_rfl) (by kernel_rfl) (by kernel_rfl) (fun _ _ _ h => h) (Or.inl ⟨by rfl, ?_⟩) (by assumption) ?_
                        rotate_left
                        · intro wq hSw; (try dsimp only at hSw); go_simp; try with_reducible rfl
                        try simp only [Act.put, List.setIfInBounds_toArray, List.set_cons_zero, List.set_cons_succ]
                        refine wpAnyH_ready (rs := [11]) (by kernel_rfl) (by simp) ?_
                        refine AllReadyH.cons rfl (fun K hK => ?_) AllReadyH.nil
                        go_simp
                        refine hK.out _ _ ?_ (fun hHn => ?_)
                        · (try dsimp only); go_keep
                        clear hK K hHeld hHn
                        refine wpAnyH_done (by kernel_rfl) ?_ _
                        go_wp2
                        go_roundw
                        case rel => exact ⟨q + 1, by omega, by go_num, ((HBL2.out.setCell (Nat.le_of_eq HWS.out) _).setCell (Nat.le_of_eq HWS.out) _).drew, (HLI2.out.put _ _ HZ.out.symm rfl).of_block rfl⟩
                        case measure => simp [intOf]; omega
                      · obtain rfl : q = c.pl k := by omega
                        obtain ⟨we, hwe⟩ : ∃ x, x = wi := ⟨_, rfl⟩
                        subst hwe
                        have PHE : Hid (PhC wc we w.heap.size bf4 M c k v4 pbf) := hid (PH.out.below hbl)
                        have HLE := hid hli
                        have g0 := cell_of_row W wo.heap.size 0 _ _ _ HC0.out
                        have g1 := cell_of_row W wo.heap.size 2 _ _ _ HC0.out
                        simp at g0 g1
                        replace g0 := cell_below hbl g0
                        replace g1 := cell_below hbl g1
                        have x0 := cell_below hbl (HN.out.cell (i := x) hxn)
                        have x1 := cell_below hbl (HN.out.cell (i := y) hyn)
                        have b2 := PHE.out.ph.box.cell (i := 4) (by omega)
                        have b2z := PHE.out.ph.box.frozen 4
                        simp only [if_true] at b2
                        have l2 : w.heap.size < we.heap.size := by omega
                        have l3 : wo.heap.size < we.heap.size := by omega
                        have j1 : (0 : Int) ≤ (y : Int) := by omega
                        have j2 : (y : Int) < (n : Int) := by omega
                        have j3 : (0 : Int) ≤ (x : Int) := by omega
                        have j4 : (x : Int) < (n : Int) := by omega
                        have b2c : ∀ o, (we.alloc o).cell? ⟨w.heap.size, 4, none⟩ = some v4 := fun o => cell_alloc b2 o
                        have b2a : ∀ o, (we.alloc o).frozen? ⟨w.heap.size, 4, none⟩ = false := fun o => (PHE.out.ph.box.alloc o).frozen 4
                        have ne1 : wo.heap.size ≠ w.heap.size := by omega
                        have ne2 : w.heap.size ≠ wo.heap.size := by omega
                        have l4 : w.heap.size + 1 < we.heap.size := by omega
                        clear hbl hli
                        go_wp2_with fail
                        refine wp_region_held_drew (S := fun w' => w'.cell? ⟨wo.heap.size, 0, none⟩ = some (.int .i64 (x : Int)) ∧ w'.cell? ⟨wo.heap.size, 2, none⟩ = some (.int .i64 (y : Int)) ∧ w'.cell? ⟨w.heap.size + 1, x, none⟩ = some (.int .i64 (num M x : Int)) ∧ w'.cell? ⟨w.heap.size + 1, y, none⟩ = some (.int .i64 (num M y : Int))) (by kernel_rfl) ?_ (fun hHeld => ?_)
                        · (try dsimp only); go_keep
                        refine wpAnyH_take (i := 0) (v := ?_) rfl (by kernel_rfl) (by kernel_rfl) (by kernel_rfl) (fun _ _ _ h => h) (Or.inl ⟨by rfl, ?_⟩) (by assumption) ?_
                        rotate_left
                        · intro wq hSw; (try dsimp only at hSw); go_simp; try with_reducible rfl
                        try simp only [Act.put, List.setIfInBounds_toArray, List.set_cons_zero, List.set_cons_succ]
                        refine wpAnyH_take (i := 1) (v := ?_) rfl (by kernel_rfl) (by kernel_rfl) (by kernel_rfl) (fun _ _ _ h => h) (Or.inl ⟨by rfl, ?_⟩) (by assumption) ?_
                        rotate_left
                        · intro wq hSw; (try dsimp only at hSw); go_simp; try with_reducible rfl
                        try simp only [Act.put, List.setIfInBounds_toArray, List.set_cons_zero, List.set_cons_succ]
                        refine wpAnyH_take (i := 2) (v := ?_) rfl (by kernel_rfl) (by kernel_rfl) (by kernel_rfl) (fun _ _ _ h => h) (Or.inl ⟨by rfl, ?_⟩) (by assumption) ?_
                        rotate_left
                        · intro wq hSw; (try dsimp only at hSw); go_simp; try with_reducible rfl
                        try simp only [Act.put, List.setIfInBounds_toArray, List.set_cons_zero, List.set_cons_succ]
                        refine wpAnyH_take (i := 3) (v := ?_) rfl (by kernel_rfl) (by kernel_rfl) (by kernel_rfl) (fun _ _ _ h => h) (Or.inl ⟨by rfl, ?_⟩) (by assumption) ?_
                        rotate_left
                        · intro wq hSw; (try dsimp only at hSw); go_simp; try with_reducible rfl
                        try simp only [Act.put, List.setIfInBounds_toArray, List.set_cons_zero, List.set_cons_succ]
                        refine wpAnyH_take (i := 5) (v := ?_) rfl (by kernel_rfl) (by kernel_rfl) (by kernel_rfl) (fun _ _ _ h => h) (Or.inl ⟨by rfl, ?_⟩) (by assumption) ?_
                        rotate_left
                        · intro wq hSw; (try dsimp only at hSw); go_simp; try with_reducible rfl
                        try simp only [Act.put, List.setIfInBounds_toArray, List.set_cons_zero, List.set_cons_succ]
                        refine wpAnyH_take (i := 6) (v := ?_) rfl (by kernel_rfl) (by kernel_rfl) (by kernel_rfl) (fun _ _ _ h => h) (Or.inl ⟨by rfl, ?_⟩) (by assumption) ?_
                        rotate_left
                        · intro wq hSw; (try dsimp only at hSw); go_simp; try with_reducible rfl
                        try simp only [Act.put, List.setIfInBounds_toArray, List.set_cons_zero, List.set_cons_succ]
                        refine wpAnyH_take (i := 7) (v := ?_) rfl (by kernel_rfl) (by kernel_rfl) (by kernel_rfl) (fun _ _ _ h => h) (Or.inl ⟨by rfl, ?_⟩) (by assumption) ?_
                        rotate_left
                        · intro wq hSw; (try dsimp only at hSw); go_simp; try with_reducible rfl
                        try simp only [Act.put, List.setIfInBounds_toArray, List.set_cons_zero, List.set_cons_succ]
                        refine wpAnyH_take (i := 8) (v := ?_) rfl (by kernel_rfl) (by kernel_rfl) (by kernel_rfl) (fun _ _ _ h => h) (Or.inl ⟨by rfl, ?_⟩) (by assumption) ?_
                        rotate_left
                        · intro wq hSw; (try dsimp only at hSw); go_simp; try with_reducible rfl
                        try simp only [Act.put, List.setIfInBounds_toArray, List.set_cons_zero, List.set_cons_succ]
                        refine wpAnyH_take (i := 9) (v := ?_) rfl (by kernel_rfl) (by kernel_rfl) (by kernel_rfl) (fun _ _ _ h => h) (Or.inl ⟨by rfl, ?_⟩) (by assumption) ?_
                        rotate_left
                        · intro wq hSw; (try dsimp only at hSw); go_simp; try with_reducible rfl
                        try simp only [Act.put, List.setIfInBounds_toArray, List.set_cons_zero, List.set_cons_succ]
                        refine wpAnyH_take (i := 10) (v := ?_) rfl (by kernel_rfl) (by kernel_rfl) (by kernel_rfl) (fun _ _ _ h => h) (Or.inl ⟨by rfl, ?_⟩) (by assumption) ?_
                        rotate_left
                        · intro wq hSw; (try dsimp only at hSw); go_simp; try with_reducible rfl
                        try simp only [Act.put, List.setIfInBounds_toArray, List.set_cons_zero, List.set_cons_succ]
                        refine wpAnyH_take (i := 11) (v := ?_) rfl (by kernel_rfl) (by kernel_rfl) (by kernel_rfl) (fun _ _ _ h => h) (Or.inl ⟨by rfl, ?_⟩) (by assumption) ?_
                        rotate_left
                        · intro wq hSw; (try dsimp only at hSw); go_simp; try with_reducible rfl
                        try simp only [Act.put, List.setIfInBounds_toArray, List.set_cons_zero, List.set_cons_succ]
                        refine wpAnyH_take (i := 12) (v := ?_) rfl (by kernel_rfl) (by kernel_rfl) (by kernel_rfl) (fun _ _ _ h => h) (Or.inl ⟨by rfl, ?_⟩) (by assumption) ?_
                        rotate_left
                        · intro wq hSw; (try dsimp only at hSw); go_simp; try with_reducible rfl
                        try simp only [Act.put, List.setIfInBounds_toArray, List.set_cons_zero, List.set_cons_succ]
                        refine wpAnyH_take (i := 13) (v := ?_) rfl (by kernel_rfl) (by kernel_rfl) (by kernel_rfl) (fun _ _ _ h => h) (Or.inl ⟨by rfl, ?_⟩) (by assumption) ?_
                        rotate_left
                        · intro wq hSw; (try dsimp only at hSw); go_simp; try with_reducible rfl
                        try simp only [Act.put, List.setIfInBounds_toArray, List.set_cons_zero, List.set_cons_succ]
                        refine wpAnyH_take (i := 14) (v := ?_) rfl (by kernel_rfl) (by kernel_rfl) (by kernel_rfl) (fun _ _ _ h => h) (Or.inl ⟨by rfl, ?_⟩) (by assumption) ?_
                        rotate_left
                        · intro wq hSw; (try dsimp only at hSw); go_simp; try with_reducible rfl
                        try simp only [Act.put, List.setIfInBounds_toArray, List.set_cons_zero, List.set_cons_succ]
                        refine wpAnyH_take (i := 15) (v := ?_) rfl (by kernel_rfl) (by kernel_rfl) (by kernel_rfl) (fun _ _ _ h => h) (Or.inl ⟨by rfl, ?_⟩) (by assumption) ?_
                        rotate_left
                        · intro wq hSw; (try dsimp only at hSw); go_simp; try with_reducible rfl
                        try simp only [Act.put, List.setIfInBounds_toArray, List.set_cons_zero, List.set_cons_succ]
                        refine wpAnyH_take (i := 16) (v := ?_) rfl (by kernel_rfl) (by kernel_rfl) (by kernel_rfl) (fun _ _ _ h => h) (Or.inl ⟨by rfl, ?_⟩) (by assumption) ?_
                        rotate_left
                        · intro wq hSw; (try dsimp only at hSw); go_simp; try with_reducible rfl
                        try simp only [Act.put, List.setIfInBounds_toArray, List.set_cons_zero, List.set_cons_succ]
                        refine wpAnyH_ready (rs := [4, 17]) (by kernel_rfl) (by simp) ?_
                        refine AllReadyH.cons rfl (fun K hK => ?_) ?_
                        · go_simp
                          refine hK.out _ _ ?_ (fun hHn => ?_)
                          · (try dsimp only); go_keep
                          clear hK K hHeld
                          have hHeld := hHn
                          clear hHn
                          refine wpAnyH_ready (rs := [17]) (by kernel_rfl) (by simp) ?_
                          refine AllReadyH.cons rfl (fun K hK => ?_) AllReadyH.nil
                          go_simp
                          refine hK.out _ _ ?_ (fun hHn => ?_)
                          · (try dsimp only); go_keep
                          clear hK K hHeld
                          have hHeld := hHn
                          clear hHn
                          refine wpAnyH_ready (rs := [18]) (by kernel_rfl) (by simp) ?_
                          refine AllReadyH.cons rfl (fun K hK => ?_) AllReadyH.nil
                          refine step_append_lies _ (by rfl) _ _ _ (by rfl) wc.heap.size 72 i72 _ 3 40 Try.underlying31 hi72 ht0 ht1 ht2 rfl (by omega) v4 (cnt (kp M c.ro) k) (pick (kp M c.ro) (caRow M c pbf) k) (by simp [Act.eval]) ((PHE.out.ph.own.alloc _).drew) ⟨we.heap.size, 0, none⟩ 1 1 [.int .i64 (num M x : Int), .slice (some ⟨wo.heap.size + 1, 0, none⟩) (c.pl k) (c.pl k), .int .i64 (num M y : Int)] (by simp [Act.eval]) (by rfl) (World.news_of_block (cs := #[.int .i64 (num M x : Int), .slice (some ⟨wo.heap.size + 1, 0, none⟩) (c.pl k) (c.pl k), .int .i64 (num M y : Int)]) (t := 72) (fr := (0, 0)) (heap_alloc_new we _)) (by simp [Value.oneCell']) (by omega) (by unfold maxLen; omega) (by omega) (by simp; omega) (we.heap.size + 1) (by simp) ?_
                          intro gg cap w3 hown1 hgrow hat hlt1
                          have hb3 := ((PHE.out.alloc _).drew).ph.boxIn hgrow
                          have m2 := hb3.cell (i := 4) (by omega)
                          have m3 := hb3.frozen 4
                          clear hb3
                          have q1 : w3.cell? ⟨wo.heap.size, 0, none⟩ = some (.int .i64 (x : Int)) := (hgrow.cell_far _ (by simp; omega) (fun e => OWN1.out e.symm)).trans (cell_alloc g0 _)
                          have q2 : w3.cell? ⟨wo.heap.size, 2, none⟩ = some (.int .i64 (y : Int)) := (hgrow.cell_far _ (by simp; omega) (fun e => OWN1.out e.symm)).trans (cell_alloc g1 _)
                          have q3 : w3.cell? ⟨w.heap.size + 1, x, none⟩ = some (.int .i64 (num M x : Int)) := (hgrow.cell_far _ (by simp; omega) (fun e => OWN2.out e.symm)).trans (cell_alloc x0 _)
                          have q4 : w3.cell? ⟨w.heap.size + 1, y, none⟩ = some (.int .i64 (num M y : Int)) := (hgrow.cell_far _ (by simp; omega) (fun e => OWN2.out e.symm)).trans (cell_alloc x1 _)
                          refine hK.out _ _ ?_ (fun hHn => ?_)
                          · (try dsimp only); go_keep
                          clear hK K hHeld
                          have hHeld := hHn
                          clear hHn
                          refine wpAnyH_take (i := 19) (v := ?_) rfl (by kernel_rfl) (by kernel_rfl) (by kernel_rfl) (fun _ _ _ h => h) (Or.inl ⟨by rfl, ?_⟩) (by assumption) ?_
                          rotate_left
                          · intro wq hSw; (try dsimp only at hSw); go_simp; try with_reducible rfl
                          try simp only [Act.put, List.setIfInBounds_toArray, List.set_cons_zero, List.set_cons_succ]
                          refine wpAnyH_take (i := 20) (v := ?_) rfl (by kernel_rfl) (by kernel_rfl) (by kernel_rfl) (fun _ _ _ h => h) (Or.inl ⟨by rfl, ?_⟩) (by assumption) ?_
                          rotate_left
                          · intro wq hSw; (try dsimp only at hSw); go_simp; try with_reducible rfl
                          try simp only [Act.put, List.setIfInBounds_toArray, List.set_cons_zero, List.set_cons_succ]
                          refine wpAnyH_ready (rs := [21]) (by kernel_rfl) (by simp) ?_
                          refine AllReadyH.cons rfl (fun K hK => ?_) AllReadyH.nil
                          go_simp
                          refine hK.out _ _ ?_ (fun hHn => ?_)
                          · (try dsimp only); go_keep
                          clear hK K hHeld
                          have hHeld := hHn
                          clear hHn
                          refine wpAnyH_done (by kernel_rfl) ?_ _
                          go_wp2
                          go_roundw
                          case rel => exact ⟨k + 1, by omega, by go_num, _, _, ((PHE.out.alloc _).drew).push HM.out (by omega) (fun e => by have := OWNL.out _ e; omega) (HLE.out.of_block (w' := (we.alloc (.cells #[.int .i64 (num M x : Int), .slice (some ⟨wo.heap.size + 1, 0, none⟩) (c.pl k) (c.pl k), .int .i64 (num M y : Int)] 72)).drew) (Below.heap_alloc _ _ _ HLE.out.lt)) HX.out HY.out hown1 hgrow hat (by simp)⟩
                          case measure => simp [intOf]; omega
                        refine AllReadyH.cons rfl (fun K hK => ?_) AllReadyH.nil
                        go_simp
                        refine hK.out _ _ ?_ (fun hHn => ?_)
                        · (try dsimp only); go_keep
                        clear hK K hHeld
                        have hHeld := hHn
                        clear hHn
                        refine wpAnyH_ready (rs := [4]) (by kernel_rfl) (by simp) ?_
                        refine AllReadyH.cons rfl (fun K hK => ?_) AllReadyH.nil
                        go_simp
                        refine hK.out _ _ ?_ (fun hHn => ?_)
                        · (try dsimp only); go_keep
                        clear hK K hHeld
                        have hHeld := hHn
                        clear hHn
                        refine wpAnyH_ready (rs := [18]) (by kernel_rfl) (by simp) ?_
                        refine AllReadyH.cons rfl (fun K hK => ?_) AllReadyH.nil
                        refine step_append_lies _ (by rfl) _ _ _ (by rfl) wc.heap.size 72 i72 _ 3 40 Try.underlying31 hi72 ht0 ht1 ht2 rfl (by omega) v4 (cnt (kp M c.ro) k) (pick (kp M c.ro) (caRow M c pbf) k) (by simp [Act.eval]) ((PHE.out.ph.own.alloc _).drew) ⟨we.heap.size, 0, none⟩ 1 1 [.int .i64 (num M x : Int), .slice (some ⟨wo.heap.size + 1, 0, none⟩) (c.pl k) (c.pl k), .int .i64 (num M y : Int)] (by simp [Act.eval]) (by rfl) (World.news_of_block (cs := #[.int .i64 (num M x : Int), .slice (some ⟨wo.heap.size + 1, 0, none⟩) (c.pl k) (c.pl k), .int .i64 (num M y : Int)]) (t := 72) (fr := (0, 0)) (heap_alloc_new we _)) (by simp [Value.oneCell']) (by omega) (by unfold maxLen; omega) (by omega) (by simp; omega) (we.heap.size + 1) (by simp) ?_
                        intro gg cap w3 hown1 hgrow hat hlt1
                        have hb3 := ((PHE.out.alloc _).drew).ph.boxIn hgrow
                        have m2 := hb3.cell (i := 4) (by omega)
                        have m3 := hb3.frozen 4
                        clear hb3
                        have q1 : w3.cell? ⟨wo.heap.size, 0, none⟩ = some (.int .i64 (x : Int)) := (hgrow.cell_far _ (by simp; omega) (fun e => OWN1.out e.symm)).trans (cell_alloc g0 _)
                        have q2 : w3.cell? ⟨wo.heap.size, 2, none⟩ = some (.int .i64 (y : Int)) := (hgrow.cell_far _ (by simp; omega) (fun e => OWN1.out e.symm)).trans (cell_alloc g1 _)
                        have q3 : w3.cell? ⟨w.heap.size + 1, x, none⟩ = some (.int .i64 (num M x : Int)) := (hgrow.cell_far _ (by simp; omega) (fun e => OWN2.out e.symm)).trans (cell_alloc x0 _)
                        have q4 : w3.cell? ⟨w.heap.size + 1, y, none⟩ = some (.int .i64 (num M y : Int)) := (hgrow.cell_far _ (by simp; omega) (fun e => OWN2.out e.symm)).trans (cell_alloc x1 _)
                        refine hK.out _ _ ?_ (fun hHn => ?_)
                        · (try dsimp only); go_keep
                        clear hK K hHeld
                        have hHeld := hHn
                        clear hHn
                        refine wpAnyH_take (i := 19) (v := ?_) rfl (by kernel_rfl) (by kernel_rfl) (by kernel_rfl) (fun _ _ _ h => h) (Or.inl ⟨by rfl, ?_⟩) (by assumption) ?_
                        rotate_left
                        · intro wq hSw; (try dsimp only at hSw); go_simp; try with_reducible rfl
                        try simp only [Act.put, List.setIfInBounds_toArray, List.set_cons_zero, List.set_cons_succ]
                        refine wpAnyH_take (i := 20) (v := ?_) rfl (by kernel_rfl) (by kernel_rfl) (by kernel_rfl) (fun _ _ _ h => h) (Or.inl ⟨by rfl, ?_⟩) (by assumption) ?_
                        rotate_left
                        · intro wq hSw; (try dsimp only at hSw); go_simp; try with_reducible rfl
                        try simp only [Act.put, List.setIfInBounds_toArray, List.set_cons_zero, List.set_cons_succ]
                        refine wpAnyH_ready (rs := [21]) (by kernel_rfl) (by simp) ?_
                        refine AllReadyH.cons rfl (fun K hK => ?_) AllReadyH.nil
                        go_simp
                        refine hK.out _ _ ?_ (fun hHn => ?_)
                        · (try dsimp only); go_keep
                        clear hK K hHeld
                        have hHeld := hHn
                        clear hHn
                        refine wpAnyH_done (by kernel_rfl) ?_ _
                        go_wp2
                        go_roundw
                        case rel => exact ⟨k + 1, by omega, by go_num, _, _, ((PHE.out.alloc _).drew).push HM.out (by omega) (fun e => by have := OWNL.out _ e; omega) (HLE.out.of_block (w' := (we.alloc (.cells #[.int .i64 (num M x : Int), .slice (some ⟨wo.heap.size + 1, 0, none⟩) (c.pl k) (c.pl k), .int .i64 (num M y : Int)] 72)).drew) (Below.heap_alloc _ _ _ HLE.out.lt)) HX.out HY.out hown1 hgrow hat (by simp)⟩
                        case measure => simp [intOf]; omega
                · obtain rfl : k = c.n := by omega
                  have PH := hid hph
                  have hsz4 := hph.ph.kept.size
                  clear hph
                  go_wp2_with fail
                  go_ret
                  have e0 : bf4 0 = v := by rw [BF4.out, BF3.out, BF.out]; rfl
                  have e2 : bf4 2 = v2 := by rw [BF4.out, BF3.out]; rfl
                  have e3 : bf4 3 = v3 := by rw [BF4.out]; rfl
                  refine ⟨rfl, Q4.out.trans (PH.out.ph.kept.below (by omega) (fun b hb e => by have e' : b = w.heap.size := e; omega)), _, PH.out.ph.box, ?_, ?_, ⟨w1.heap.size, ?_, ?_⟩, ⟨w2.heap.size, ?_, ?_⟩, ⟨wb.heap.size, ?_, ?_⟩, pbf, wc.heap.size, PH.out.ph.own, PH.out.ph.nl, fun i hi hk => (PH.out.pre i hi hk).2.2⟩
                  · show bf4 1 = _
                    rw [BF4.out, BF3.out, BF.out]
                    rfl
                  · show bf4 5 = _
                    rw [BF4.out, BF3.out, BF.out]
                    rfl
                  · show World.ownsRow _ _ 9 1 (bf4 0) _ _
                    rw [e0]
                    exact next_own PH.out.ph HO0c.out (by omega)
                  · show _ → bf4 0 = _
                    rw [e0]
                    exact NL0.out
                  · show World.ownsRow _ _ 68 2 (bf4 2) _ _
                    rw [e2]
                    exact next_own PH.out.ph HO2c.out (by omega)
                  · show _ → bf4 2 = _
                    rw [e2]
                    exact NL2.out
                  · show World.ownsRow _ _ 69 2 (bf4 3) _ _
                    rw [e3]
                    exact next_own PH.out.ph HO3c.out (by omega)
                  · show _ → bf4 3 = _
                    rw [e3]
                    exact NL3.out
end Go.Proofs.Qxb6605479a
