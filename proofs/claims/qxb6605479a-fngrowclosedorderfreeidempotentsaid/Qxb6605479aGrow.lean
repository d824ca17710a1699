/-
  'grow': counters and waiting lists reach the least closed superset.
-/
import Derived.Test.Qxb6605479aWaitOn
import Derived.Deep.LoopGhost
namespace Go.Proofs.Qxb6605479a
open Go.RowKit

theorem cell_grown {w w' : World} {hb : Nat} (hg : w.grownBy w' (some hb)) {a : Addr} {v : Value} (hc : w.cell? a = some v) (hne : a.block ≠ hb) : w'.cell? a = some v := hg.cell hc (by simpa using hne)

/-- The rules do not lie in block hb. -/
def Off (c : CA) (rb hb : Nat) : Prop := (0 < c.n → rb ≠ hb) ∧ ∀ i, i < c.n → 0 < c.pl i → c.pb i ≠ hb

theorem CAv.grown {w w' : World} {b o hb : Nat} {c : CA} (h : CAv w b o c) (hg : w.grownBy w' (some hb)) (ho : Off c b hb) : CAv w' b o c :=
  ⟨fun i hi => cell_grown hg (h.ad i hi) (ho.1 (by omega)), fun i hi => cell_grown hg (h.pre i hi) (ho.1 (by omega)), fun i hi => cell_grown hg (h.ro i hi) (ho.1 (by omega)), h.at_, h.nil, fun i hi j hj => cell_grown hg (h.lr i hi j hj) (ho.2 i hi (by omega)), fun i hi j hj => cell_grown hg (h.ln i hi j hj) (ho.2 i hi (by omega))⟩

/-- What grow leaves. -/
def SaysGrow (w w' : World) (hb n : Nat) (adm : Option (Nat → Bool)) (c : CA) (H : Nat → Bool) (e : Ending) : Prop :=
  e = .returned (.tuple #[]) ∧ ∃ X, Plain.IsLfp n adm (ruleOf c) c.n H X ∧ w'.rowIs hb 4 n (fun i => .bool (X i)) ∧ w.grownBy w' (some hb)

theorem GM.start (w : World) (hb n R hcap : Nat) (H : Nat → Bool) (hH : w.rowIs hb 4 n (fun i => .bool (H i))) :
    GM w hb n R hcap H (fun _ => 0) (fun _ => []) (fun _ => .slice none 0 0) (.slice none 0 0) []
      (((((w.alloc (.cells #[.slice (some ⟨hb, 0, none⟩) n hcap] 23)).alloc (.cells (madeCells #[.int .i64 0] R) 3)).alloc (.cells #[.slice (some ⟨w.heap.size + 1, 0, none⟩) R R] 64)).alloc (.cells (madeCells #[.slice none 0 0] n) 64)).alloc (.cells #[.slice (some ⟨w.heap.size + 3, 0, none⟩) n n] 77)) := by
  have s1 : ∀ (w : World) (o : Obj), (w.alloc o).heap.size = w.heap.size + 1 := fun w o => by simp
  generalize ho1 : Obj.cells #[.slice (some ⟨hb, 0, none⟩) n hcap] 23 = o1
  generalize ho3 : Obj.cells #[.slice (some ⟨w.heap.size + 1, 0, none⟩) R R] 64 = o3
  generalize ho5 : Obj.cells #[.slice (some ⟨w.heap.size + 3, 0, none⟩) n n] 77 = o5
  have r2 := World.rowIs_made (w.alloc o1) (.int .i64 0) R 3
  have r4 := World.rowIs_made (((w.alloc o1).alloc (.cells (madeCells #[.int .i64 0] R) 3)).alloc o3) (.slice none 0 0) n 64
  generalize Obj.cells (madeCells #[.int .i64 0] R) 3 = o2 at r2 r4 ⊢
  generalize Obj.cells (madeCells #[.slice none 0 0] n) 64 = o4 at r4 ⊢
  rw [s1] at r2
  rw [s1, s1, s1] at r4
  have hbl := hH.lt
  refine ⟨?_, ?_, ?_, ?_, ?_, ?_, fun r _ => World.ownsRow_nil _ _ _ _, fun r r' _ _ _ g hg => ?_, World.ownsRow_nil _ _ _ _, fun r _ g hg => ?_, hbl, ?_, ?_⟩
  · rw [Below.heap_alloc _ _ _ (by simp [s1]; omega), Below.heap_alloc _ _ _ (by simp [s1]; omega), Below.heap_alloc _ _ _ (by simp [s1]; omega), Below.heap_alloc _ _ _ (by simp [s1])]
    rw [← ho1]
    exact heap_alloc_new w _
  · exact ((r2.alloc o3).alloc o4).alloc o5
  · rw [Below.heap_alloc _ _ _ (by simp [s1]), Below.heap_alloc _ _ _ (by simp [s1])]
    have := heap_alloc_new ((w.alloc o1).alloc o2) o3
    rw [s1, s1] at this
    rw [← ho3] at this ⊢
    exact this
  · exact r4.alloc o5
  · have := heap_alloc_new ((((w.alloc o1).alloc o2).alloc o3).alloc o4) o5
    rw [s1, s1, s1, s1] at this
    rw [← ho5] at this ⊢
    exact this
  · exact ((((hH.alloc o1).alloc o2).alloc o3).alloc o4).alloc o5
  · simp [Value.ownBlock] at hg
  · simp [Value.ownBlock] at hg
  · exact ⟨rfl, rfl, rfl, by simp only [s1]; omega, fun k hk _ => by
      rw [Below.heap_alloc _ _ _ (by simp [s1]; omega), Below.heap_alloc _ _ _ (by simp [s1]; omega), Below.heap_alloc _ _ _ (by simp [s1]; omega), Below.heap_alloc _ _ _ (by simp [s1]; omega), Below.heap_alloc _ _ _ hk]⟩
  · simp only [s1]; omega

theorem pr_le {adm : Option (Nat → Bool)} {c : CA} {H : Nat → Bool} {pr : Nat → List Nat} {u : Nat → Nat} {wl : Nat → List Nat} {ready : List Nat} (h : L1 adm c H c.n pr u wl ready) (hp : ∀ i, i < c.n → c.pl i ≤ 1048576) (y : Nat) (hy : y < c.n) : (pr y).length ≤ 1048577 := by
  have h1 := reqTo_length c y (c.pl y)
  rw [reqTo_all] at h1
  have h2 := hp y hy
  cases ha : Plain.active adm (ruleOf c y) with
  | false => rw [h.idle y hy ha]; simp
  | true =>
    rw [h.full y hy ha]
    cases adm with
    | none => show (ruleOf c y).req.length + 1 ≤ _; omega
    | some A => show (ruleOf c y).req.length ≤ _; omega

theorem ownsRow_cap {w : World} {base e size g n cap : Nat} {xs : List Value} (h : w.ownsRow base e size (.slice (some ⟨g, 0, none⟩) n cap) n xs) : n ≤ cap ∧ cap ≤ maxLen := by
  rcases h.2 with ⟨h', _⟩ | ⟨g', cap', cur, h', _, _, h1, h2, _⟩
  · cases h'
  · cases h'; exact ⟨h1, h2⟩

/-- The copy of a rule, in a block of its own, behind the closure's call. -/
theorem ruleCell {w wr w1 : World} {hb n R hcap : Nat} {X : Nat → Bool} {u : Nat → Nat} {wl : Nat → List Nat} {V : Nat → Value} {rv : Value} {ready : List Nat} {arr : Array Value} {t : TypeId}
    (hG : GM w hb n R hcap X u wl V rv ready wr) (hsp : Spares w n V (wr.alloc (.cells arr t)) w1) (j : Nat) (v : Value) (hj : arr[j]? = some v) : w1.cell? ⟨wr.heap.size, j, none⟩ = some v := by
  have e := hsp wr.heap.size hG.size (by simp) (fun r hr e => by have := ((hG.own r hr).lt _ e).2; omega)
  have e2 : w1.cell? ⟨wr.heap.size, j, none⟩ = (wr.alloc (.cells arr t)).cell? ⟨wr.heap.size, j, none⟩ := World.cell?_of_block e
  rw [e2, World.cell?_alloc_new]
  exact hj

set_option maxHeartbeats 4000000 in
theorem grow41 (w : World) (ra : Option Addr) (rb ro rcap : Nat) (c : CA) (hRA : 0 < c.n → ra = some ⟨rb, ro, none⟩) (hv : CAv w rb ro c) (n : Nat) (hin : CAin c n)
    (hb hcap : Nat) (H : Nat → Bool) (hH : w.rowIs hb 4 n (fun i => .bool (H i))) (hoff : Off c rb hb)
    (aa : Option Addr) (an acap : Nat) (adm : Option (Nat → Bool)) (hadm : AdmV w aa an acap n adm) (hao : ∀ ab, aa = some ⟨ab, 0, none⟩ → ab ≠ hb)
    (hp : ∀ i, i < c.n → c.pl i ≤ 1048576) (hS : askTo c c.n ≤ 2097152) (hn : n ≤ 65536) (hR : c.n ≤ 65536) :
    Calls Try.prog 41 #[.slice ra c.n rcap, .slice (some ⟨hb, 0, none⟩) n hcap, .slice aa an acap] w fun e w' => SaysGrow w w' hb n adm c H e := by
  have hmk1 := run_make_row' (P := Try.prog) 64 3 (.int .i64 0) 8 Try.underlying64 Try.info3 rfl .i64 .i64 c.n (by omega) (by omega)
  have hmk2 := run_make_row' (P := Try.prog) 77 64 (.slice none 0 0) 24 Try.underlying77 Try.info64 rfl .i64 .i64 n (by omega) (by omega)
  have heq : ∀ wx, (binOp .eql 23 (.slice aa an acap) (.slice none 0 0)).run Try.prog wx = .ok (.bool aa.isNone) wx := fun wx => Lib.run_eql_slice_nil wx 23 4 aa an acap 0 0 Try.underlying23
  have HV := hid hv
  have HIN := hid hin
  have HH := hid hH
  have HOFF := hid hoff
  have HADM := hid hadm
  have HAO := hid hao
  have HP := hid hp
  clear hv hin hH hoff hadm hao hp
  go_enter Try.func41, Try.ntmps41
  go_wp2_with fail
  rw [show w.heap.size + 1 + 1 + 1 + 1 = w.heap.size + 4 from rfl, show w.heap.size + 1 + 1 + 1 = w.heap.size + 3 from rfl, show w.heap.size + 1 + 1 = w.heap.size + 2 from rfl]
  obtain ⟨i0, hi0, hz0, hz1, hz2⟩ := info_parts Try.info3
  go_loopw [9, 26] (fun rvv i wr => ∃ k : Nat, k ≤ c.n ∧ i = .int .i64 k ∧ ∃ pr u wl V ready, GM w hb n c.n hcap H u wl V rvv ready wr ∧ L1 adm c H k pr u wl ready) (fun _ i _ => c.n - (intOf i).toNat)
  case atStart => exact ⟨0, Nat.zero_le _, rfl, _, _, _, _, _, GM.start w hb n c.n hcap H HH.out, L1.start adm c H⟩
  case round =>
    clear hmk1 hmk2
    obtain ⟨k, hk, rfl, pr, u, wl, V, ready, hG, hL⟩ := hrel
    have HG := hid hG
    have HL := hid hL
    by_cases hlt : k < c.n
    · cases hRA (by omega)
      have hvr := HV.out.grown hG.old HOFF.out
      have c1 := hvr.ad k hlt
      have c2 := hvr.pre k hlt
      have c3 := hvr.ro k hlt
      have HPA := hid (hvr.at_ k hlt)
      obtain ⟨⟨g1, g2⟩, _, _⟩ := HIN.out k hlt
      obtain ⟨x, hx⟩ : ∃ x : Nat, c.ad k = x := ⟨(c.ad k).toNat, by omega⟩
      have hxn : x < n := by omega
      have hxa : (ruleOf c k).ad = x := by show (c.ad k).toNat = x; omega
      rw [hx] at c1
      have HXA := hid hxa
      have hpk := HP.out k hlt
      clear hx hvr g1 g2 hxa hL
      generalize c.pa k = pa at c2 HPA
      cases adm with
      | none =>
        obtain ⟨rfl, rfl, rfl⟩ := HADM.out
        simp only [Option.isNone_none] at heq
        have HACT : Hid (Plain.active none (ruleOf c k) = true) := rfl
        clear hG
        go_wp2_with (go_at_call 44; refine (waitOn (HG.out.alloc _) HL.out.open_ hlt x hxn (Nat.zero_le _) hpk hS).mono ?_; rintro e w1 ⟨rfl, ⟨pr1, u1, wl1, V1, hG1, hM1⟩, hsp, hsz⟩; have q1 := ruleCell HG.out hsp 1 _ rfl; have HG1 := hid hG1; have HM1 := hid hM1; clear hG1 hM1 hsp hsz)
        -- the rule's literals
        go_loopw [49] (fun jv wi => ∃ j : Nat, j ≤ c.pl k ∧ jv = .int .i64 j ∧ ∃ pr u wl V, GM w hb n c.n hcap H u wl V u9 ready wi ∧ L1m none c H k pr u wl ready ([x] ++ reqTo c k j)) (fun jv _ => c.pl k - (intOf jv).toNat)
        case atStart => exact ⟨0, Nat.zero_le _, rfl, pr1, u1, wl1, V1, HG1.out, HM1.out⟩
        case round =>
          clear c1 c2 c3 q1 HG HL HG1 HM1
          obtain ⟨j, hj, rfl, pr, u, wl, V, hG, hM⟩ := hrel
          have HG := hid hG
          have HM := hid hM
          have hpk := HP.out k hlt
          by_cases hjt : j < c.pl k
          · have hvi := HV.out.grown hG.old HOFF.out
            obtain rfl := HPA.out (by omega)
            have l1 := hvi.lr k hlt j hjt
            have l2 := hvi.ln k hlt j hjt
            obtain ⟨y, hy⟩ : ∃ y : Nat, c.lr k j = y := ⟨(c.lr k j).toNat, by have := (HIN.out k hlt).2.2 j hjt; omega⟩
            have hyn : y < n := by have := (HIN.out k hlt).2.2 j hjt; omega
            rw [hy] at l1
            have HY := hid hy
            clear hy hG hM hvi
            cases en : c.ln k j with
            | true =>
              rw [en] at l2
              have EN := hid en
              clear en
              go_wp2_with fail
              go_roundw
              case rel => exact ⟨j + 1, by omega, by go_num, pr, u, wl, V, HG.out.alloc _, by rw [reqTo_neg _ _ _ EN.out]; exact HM.out⟩
              case measure => simp [intOf]; omega
            | false =>
              rw [en] at l2
              have EN := hid en
              clear en
              have hql : ([x] ++ reqTo c k j).length ≤ c.pl k := by have := reqTo_length c k j; simp; omega
              go_wp2_with (go_at_call 44; refine (waitOn (HG.out.alloc _) HM.out hlt y hyn hql hpk hS).mono ?_; rintro e w1 ⟨rfl, ⟨pr1, u1, wl1, V1, hG1, hM1⟩, _, _⟩; have HG1 := hid hG1; have HM1 := hid hM1; clear hG1 hM1)
              go_roundw
              case rel => exact ⟨j + 1, by omega, by go_num, pr1, u1, wl1, V1, HG1.out, by rw [reqTo_pos _ _ _ EN.out, HY.out, Int.toNat_natCast]; simpa using HM1.out⟩
              case measure => simp [intOf]; omega
          · obtain rfl : c.pl k = j := by omega
            have k1 := cell_of_one hG.unv
            have k2 := hG.un.cell hlt
            have hrl := hM.rlen
            have hcl := hM.count_le
            have hql : ([x] ++ reqTo c k (c.pl k)).length ≤ c.pl k + 1 := by have := reqTo_length c k (c.pl k); simp; omega
            have hsz := hG.size
            have HN : Hid ([x] ++ reqTo c k (c.pl k) = Plain.need none (ruleOf c k)) := by show [x] ++ reqTo c k (c.pl k) = (ruleOf c k).ad :: (ruleOf c k).req; rw [reqTo_all, HXA.out]; rfl
            have hrd := hG.rdy
            clear hG hM
            by_cases hu : u k = 0
            · have g1 : ((u k : Int) == 0) = true := beq_iff_eq.2 (by omega)
              have HU := hid hu
              clear hu
              go_wp2_with (at_builtin; refine wpList_append_lies _ rfl (.tmp 67) (.tmp 69) 64 rfl (w.heap.size + 5) 3 i0 (.int .i64 0) 1 8 Try.underlying64 hi0 hz0 hz1 hz2 rfl (by omega) u9 ready.length (ints ready) (by rfl) (hrd.alloc _) ⟨wr.heap.size, 0, none⟩ 1 1 [.int .i64 (k : Int)] (by rfl) (by rfl) (World.news_of_block (cs := #[.int .i64 (k : Int)]) (t := 3) (fr := (0, 0)) (heap_alloc_new wr _)) (by simp [Value.oneCell']) (by omega) (by unfold maxLen; omega) (by omega) (by simp; omega) (wr.heap.size + 1) (by simp) ?_; intro gg cap w1 hown1 hgrow hat hlt1)
              go_roundw
              case rel => exact ⟨k + 1, by omega, by go_num, pr, u, wl, V, ready ++ [k], HG.out.push hown1 hgrow hat, HM.out.goes HACT.out HN.out hql HU.out⟩
              case measure => simp [intOf]; omega
            · have g1 : ((u k : Int) == 0) = false := beq_eq_false_iff_ne.2 (by omega)
              go_wp2_with fail
              go_roundw
              case rel => exact ⟨k + 1, by omega, by go_num, pr, u, wl, V, ready, HG.out, HM.out.wait HACT.out HN.out hql hu⟩
              case measure => simp [intOf]; omega
      | some A =>
        obtain ⟨ab, rfl, rfl, hab⟩ := HADM.out
        simp only [Option.isNone_some] at heq
        have cA : ∀ o, (wr.alloc o).cell? ⟨ab, x, none⟩ = some (.bool (A x)) := fun o => cell_alloc (cell_grown hG.old (by simpa using hab x hxn) (HAO.out ab rfl)) o
        clear hG hab
        cases ax : A x with
        | false =>
          rw [ax] at cA
          have HACT : Hid (Plain.active (some A) (ruleOf c k) = false) := by show A (ruleOf c k).ad = false; rw [HXA.out]; exact ax
          clear ax
          go_wp2_with fail
          go_roundw
          case rel => exact ⟨k + 1, by omega, by go_num, pr, u, wl, V, ready, HG.out.alloc _, HL.out.skip HACT.out⟩
          case measure => simp [intOf]; omega
        | true =>
          rw [ax] at cA
          have HACT : Hid (Plain.active (some A) (ruleOf c k) = true) := by show A (ruleOf c k).ad = true; rw [HXA.out]; exact ax
          clear ax
          go_wp2_with fail
          -- the rule's literals
          go_loopw [49] (fun jv wi => ∃ j : Nat, j ≤ c.pl k ∧ jv = .int .i64 j ∧ ∃ pr u wl V, GM w hb n c.n hcap H u wl V u9 ready wi ∧ L1m (some A) c H k pr u wl ready (reqTo c k j)) (fun jv _ => c.pl k - (intOf jv).toNat)
          case atStart => exact ⟨0, Nat.zero_le _, rfl, pr, u, wl, V, HG.out.alloc _, HL.out.open_⟩
          case round =>
            clear c1 c2 c3 cA HG HL
            obtain ⟨j, hj, rfl, pr, u, wl, V, hG, hM⟩ := hrel
            have HG := hid hG
            have HM := hid hM
            have hpk := HP.out k hlt
            by_cases hjt : j < c.pl k
            · have hvi := HV.out.grown hG.old HOFF.out
              obtain rfl := HPA.out (by omega)
              have l1 := hvi.lr k hlt j hjt
              have l2 := hvi.ln k hlt j hjt
              obtain ⟨y, hy⟩ : ∃ y : Nat, c.lr k j = y := ⟨(c.lr k j).toNat, by have := (HIN.out k hlt).2.2 j hjt; omega⟩
              have hyn : y < n := by have := (HIN.out k hlt).2.2 j hjt; omega
              rw [hy] at l1
              have HY := hid hy
              clear hy hG hM hvi
              cases en : c.ln k j with
              | true =>
                rw [en] at l2
                have EN := hid en
                clear en
                go_wp2_with fail
                go_roundw
                case rel => exact ⟨j + 1, by omega, by go_num, pr, u, wl, V, HG.out.alloc _, by rw [reqTo_neg _ _ _ EN.out]; exact HM.out⟩
                case measure => simp [intOf]; omega
              | false =>
                rw [en] at l2
                have EN := hid en
                clear en
                have hql : (reqTo c k j).length ≤ c.pl k := by have := reqTo_length c k j; simp; omega
                go_wp2_with (go_at_call 44; refine (waitOn (HG.out.alloc _) HM.out hlt y hyn hql hpk hS).mono ?_; rintro e w1 ⟨rfl, ⟨pr1, u1, wl1, V1, hG1, hM1⟩, _, _⟩; have HG1 := hid hG1; have HM1 := hid hM1; clear hG1 hM1)
                go_roundw
                case rel => exact ⟨j + 1, by omega, by go_num, pr1, u1, wl1, V1, HG1.out, by rw [reqTo_pos _ _ _ EN.out, HY.out, Int.toNat_natCast]; simpa using HM1.out⟩
                case measure => simp [intOf]; omega
            · obtain rfl : c.pl k = j := by omega
              have k1 := cell_of_one hG.unv
              have k2 := hG.un.cell hlt
              have hrl := hM.rlen
              have hcl := hM.count_le
              have hql : (reqTo c k (c.pl k)).length ≤ c.pl k + 1 := by have := reqTo_length c k (c.pl k); simp; omega
              have hsz := hG.size
              have HN : Hid (reqTo c k (c.pl k) = Plain.need (some A) (ruleOf c k)) := by show reqTo c k (c.pl k) = (ruleOf c k).req; exact reqTo_all c k
              have hrd := hG.rdy
              clear hG hM
              by_cases hu : u k = 0
              · have g1 : ((u k : Int) == 0) = true := beq_iff_eq.2 (by omega)
                have HU := hid hu
                clear hu
                go_wp2_with (at_builtin; refine wpList_append_lies _ rfl (.tmp 67) (.tmp 69) 64 rfl (w.heap.size + 5) 3 i0 (.int .i64 0) 1 8 Try.underlying64 hi0 hz0 hz1 hz2 rfl (by omega) u9 ready.length (ints ready) (by rfl) (hrd.alloc _) ⟨wr.heap.size, 0, none⟩ 1 1 [.int .i64 (k : Int)] (by rfl) (by rfl) (World.news_of_block (cs := #[.int .i64 (k : Int)]) (t := 3) (fr := (0, 0)) (heap_alloc_new wr _)) (by simp [Value.oneCell']) (by omega) (by unfold maxLen; omega) (by omega) (by simp; omega) (wr.heap.size + 1) (by simp) ?_; intro gg cap w1 hown1 hgrow hat hlt1)
                go_roundw
                case rel => exact ⟨k + 1, by omega, by go_num, pr, u, wl, V, ready ++ [k], HG.out.push hown1 hgrow hat, HM.out.goes HACT.out HN.out hql HU.out⟩
                case measure => simp [intOf]; omega
              · have g1 : ((u k : Int) == 0) = false := beq_eq_false_iff_ne.2 (by omega)
                go_wp2_with fail
                go_roundw
                case rel => exact ⟨k + 1, by omega, by go_num, pr, u, wl, V, ready, HG.out, HM.out.wait HACT.out HN.out hql hu⟩
                case measure => simp [intOf]; omega
    · obtain rfl : c.n = k := by omega
      clear hG hL
      go_wp2_with fail
      go_loopg [9] (2 * c.n) (fun g rvv wi => ∃ X u ready, GM w hb n c.n hcap X u wl V rvv ready wi ∧ Plain.Run n adm (ruleOf c) c.n H X pr u ready ∧ ready.length + Plain.busy u c.n ≤ g ∧ g ≤ 2 * c.n)
      case atStart => exact ⟨H, u, ready, HG.out, HL.out.run, by have := HL.out.rlen; have := Plain.busy_le u c.n; omega, Nat.le_refl _⟩
      case round =>
        clear HG
        obtain ⟨X, u, ready, hG, hR, hg, hg2⟩ := hrel
        have HG := hid hG
        have HR := hid hR
        have HB := hid hg
        rcases List.eq_nil_or_concat ready with rfl | ⟨ready, i, rfl⟩
        · have hz : ∃ ao cap, u9 = .slice ao 0 cap := by
            rcases hG.readyForm with ⟨e, _⟩ | ⟨g, cap, e⟩
            · exact ⟨_, _, e⟩
            · exact ⟨_, _, e⟩
          obtain ⟨ao, cap, rfl⟩ := hz
          clear hG hR hg
          go_wp2_with fail
          go_end0
          exact ⟨rfl, X, HR.out.done, HG.out.held, HG.out.old⟩
        · rw [List.concat_eq_append] at hG hR hg HG HR HB
          have hlen : (ready ++ [i]).length = ready.length + 1 := by simp
          obtain ⟨g, cap, hu9⟩ : ∃ g cap, u9 = .slice (some ⟨g, 0, none⟩) (ready.length + 1) cap := by
            rcases hG.readyForm with ⟨_, e⟩ | ⟨g, cap, e⟩
            · simp at e
            · rw [hlen] at e; exact ⟨g, cap, e⟩
          subst hu9
          obtain ⟨hi, hact, hui⟩ := hR.here i (by simp)
          cases hRA (by omega)
          have hvr := HV.out.grown hG.old HOFF.out
          have c3 := hvr.ro i hi
          obtain ⟨⟨_, _⟩, ⟨g3, g4⟩, _⟩ := HIN.out i hi
          obtain ⟨r, hr⟩ : ∃ r : Nat, c.ro i = r := ⟨(c.ro i).toNat, by omega⟩
          have hrn : r < n := by omega
          have hro : (ruleOf c i).ro = r := by show (c.ro i).toNat = r; omega
          rw [hr] at c3
          have HRO := hid hro
          have hrd := hG.rdy
          rw [hlen] at hrd
          have k0 : wr.cell? ⟨g, ready.length, none⟩ = some (.int .i64 (i : Int)) := by
            rw [hrd.cellAt ready.length (by omega), ints_append]
            have e : (ints ready).length = ready.length := ints_length ready
            rw [List.getElem?_append_right (by omega), e, Nat.sub_self]
            rfl
          have hcp := ownsRow_cap hrd
          unfold maxLen at hcp
          obtain ⟨hcp1, hcp2⟩ := hcp
          have k1 := cell_of_one hG.box
          have k2 := hG.held.cell hrn
          have k3 := hG.held.frozen r
          have hml : ready.length + 1 ≤ 2 * c.n := by rw [hlen] at hg; omega
          have HLEN := hid hlen
          clear hr hro hvr g3 g4 hrd hlen
          cases ex : X r with
          | true =>
            simp only [ex] at k2
            have EX := hid ex
            clear hG hR hg hact hui ex
            go_wp2_with fail
            go_roundg (gk - 1)
            case measure => have := HB.out; have := HLEN.out; omega
            case rel => exact ⟨X, u, ready, HG.out.pop, HR.out.drop (by rw [HRO.out]; exact EX.out), by have := HB.out; have := HLEN.out; omega, by omega⟩
          | false =>
            simp only [ex] at k2
            have hHr : H r = false := by
              cases e : H r with
              | false => rfl
              | true => rw [hR.sup r hrn e] at ex; cases ex
            have hMid : Plain.Mid n adm (ruleOf c) c.n H (Plain.put X r) pr u ready ((wl r).drop 0) := by
              have := hR.fire (inRange_of HIN.out) (l := wl r) (by rw [HRO.out]; exact ex) (fun j => by rw [HRO.out, HL.out.built.lst, if_neg (by rw [hHr]; decide)]) (fun j hj => HL.out.built.lt r j hj)
              rw [HRO.out] at this
              exact this
            have hGH := hG.pop.hold r
            have k4 := cell_of_one hGH.wav
            have k5 := hGH.wa.cell hrn
            obtain ⟨ao, g2, cap2, hVr, hao⟩ : ∃ ao g2 cap2, V r = .slice ao (wl r).length cap2 ∧ (0 < (wl r).length → ao = some ⟨g2, 0, none⟩) := by
              rcases hG.listForm hrn with ⟨e1, e2⟩ | ⟨g2, cap2, e⟩
              · exact ⟨none, 0, 0, by rw [e1, e2]; rfl, fun h => by rw [e2] at h; simp at h⟩
              · exact ⟨_, g2, cap2, e, fun _ => rfl⟩
            rw [hVr] at k5
            have hwl : (wl r).length ≤ 2097152 := Nat.le_trans (HL.out.wlen r) hS
            have HVR := hid hVr
            have HGH := hid hGH
            have HMID := hid hMid
            clear hG hR hg hact hui ex hHr hGH hVr hMid
            go_wp2_with fail
            go_loopw [9, 102] (fun rvv tv wi => ∃ t : Nat, t ≤ (wl r).length ∧ tv = .int .i64 t ∧ ∃ u ready, GM w hb n c.n hcap (Plain.put X r) u wl V rvv ready wi ∧ Plain.Mid n adm (ruleOf c) c.n H (Plain.put X r) pr u ready ((wl r).drop t) ∧ ready.length + Plain.busy u c.n ≤ gk - 1) (fun _ tv _ => (wl r).length - (intOf tv).toNat)
            case atStart => exact ⟨0, Nat.zero_le _, rfl, u, ready, HGH.out, HMID.out, by have := HB.out; have := HLEN.out; omega⟩
            case round =>
              clear c3 k0 k1 k2 k3 k4 k5 hml
              obtain ⟨t, ht, rfl, u, ready, hG, hM, hg⟩ := hrel
              have HBT := hid hg
              by_cases htl : t < (wl r).length
              · obtain rfl := hao (by omega)
                rw [List.drop_eq_getElem_cons htl] at hM
                obtain ⟨hpos, hiR⟩ := hM.pos
                generalize hy : (wl r)[t] = y at hM hpos hiR
                obtain ⟨m, hm⟩ : ∃ m, u y = m + 1 := ⟨u y - 1, by omega⟩
                have k0 : wr.cell? ⟨g2, t, none⟩ = some (.int .i64 (y : Int)) := by
                  have h1 := hG.own r hrn
                  rw [HVR.out] at h1
                  rw [h1.cellAt t (by omega), ints_at _ _ htl, hy]
                have k1 := cell_of_one hG.unv
                have k2 : wr.cell? ⟨w.heap.size + 1, y, none⟩ = some (.int .i64 ((m : Int) + 1)) := by
                  rw [hG.un.cell hiR, hm]; rfl
                have k3 := hG.un.frozen y
                have hGC := hG.count y m
                have k4 := cell_of_one hGC.unv
                have k5 := hGC.un.cell hiR
                rw [Plain.upd_same] at k5
                have hmb : m ≤ 4194304 := by
                  have h1 := hM.cnt y hiR
                  have h2 := Plain.unmet_le (Plain.put X r) (pr y)
                  have h3 : (y :: (wl r).drop (t + 1)).count y ≤ (y :: (wl r).drop (t + 1)).length := List.count_le_length
                  have h4 : (y :: (wl r).drop (t + 1)).length ≤ (wl r).length := by simp; omega
                  have h5 := pr_le HL.out HP.out y hiR
                  omega
                have hrl : ready.length ≤ 2 * c.n := by omega
                have hs1 : (wr.setCell ⟨w.heap.size + 1, y, none⟩ (.int .i64 (m : Int))).heap.size = wr.heap.size := by simp [World.setCell]
                have hsz := hGC.size
                rw [hs1] at hsz
                have hnew : ∀ o, ((wr.setCell ⟨w.heap.size + 1, y, none⟩ (.int .i64 (m : Int))).alloc o).heap[wr.heap.size]? = some o := fun o => by
                  have := heap_alloc_new (wr.setCell ⟨w.heap.size + 1, y, none⟩ (.int .i64 (m : Int))) o
                  rw [hs1] at this
                  exact this
                have HNEW := hid hnew
                have HS1 := hid hs1
                have hrd := hGC.rdy
                have HGC := hid hGC
                have HM := hid hM
                have HMM := hid hm
                clear hG hM hg hm hGC hy hpos hnew hs1
                by_cases hm0 : m = 0
                · have g1 : ((m : Int) == 0) = true := beq_iff_eq.2 (by omega)
                  have HM0 := hid hm0
                  clear hm0
                  go_wp2_with (at_builtin; refine wpList_append_lies _ rfl (.tmp 117) (.tmp 119) 64 rfl (w.heap.size + 5) 3 i0 (.int .i64 0) 1 8 Try.underlying64 hi0 hz0 hz1 hz2 rfl (by omega) u9 ready.length (ints ready) (by rfl) (hrd.alloc _) ⟨wr.heap.size, 0, none⟩ 1 1 [.int .i64 (y : Int)] (by rfl) (by rfl) (World.news_of_block (cs := #[.int .i64 (y : Int)]) (t := 3) (fr := (0, 0)) (HNEW.out _)) (by simp [Value.oneCell']) (by omega) (by unfold maxLen; omega) (by omega) (by simp; omega) (wr.heap.size + 1) (by simp) ?_; intro gg cap3 w1 hown1 hgrow hat hlt1)
                  go_roundw
                  case rel => exact ⟨t + 1, by omega, by go_num, _, ready ++ [y], HGC.out.push hown1 hgrow (by rw [HS1.out]; exact hat), by have := HM.out.push (by rw [HMM.out, HM0.out]); rw [HM0.out]; exact this, by have h1 := HBT.out; have h2 : Plain.busy (Plain.upd u y 0) c.n + 1 = Plain.busy u c.n := Plain.busy_drop (by rw [HMM.out]; omega) _ hiR; rw [HM0.out, List.length_append, List.length_singleton]; omega⟩
                  case measure => simp [intOf]; omega
                · have g1 : ((m : Int) == 0) = false := beq_eq_false_iff_ne.2 (by omega)
                  go_wp2_with fail
                  go_roundw
                  case rel => exact ⟨t + 1, by omega, by go_num, _, ready, HGC.out, by have := HM.out.step (by rw [HMM.out]; omega); rw [HMM.out] at this; exact this, by have h1 := HBT.out; have h2 : Plain.busy (Plain.upd u y m) c.n = Plain.busy u c.n := Plain.busy_congr _ (fun j hj => by by_cases e : j = y; subst e; rw [Plain.upd_same, HMM.out]; omega; rw [Plain.upd_other _ _ e]); omega⟩
                  case measure => simp [intOf]; omega
              · obtain rfl : (wl r).length = t := by omega
                rw [List.drop_length] at hM
                have HG := hid hG
                have HM := hid hM
                clear hG hM hg
                go_wp2_with fail
                go_roundg (gk - 1)
                case measure => have := HB.out; have := HLEN.out; omega
                case rel => exact ⟨Plain.put X r, u, ready, HG.out, HM.out.done, HBT.out, by omega⟩
end Go.Proofs.Qxb6605479a
