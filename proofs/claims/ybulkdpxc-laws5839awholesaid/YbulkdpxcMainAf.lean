/-
  THE WALK of LawS5839AWhole: h is not among the held.
-/
import Derived.Test.YbulkdpxcMainAt
namespace Go.Proofs.Ybulkdpxc
open Go.ChangeShapes Go.WideShapes Go.ChangeAt Go.RowKit Go.MuLone
set_option linter.unusedVariables false

set_option maxRecDepth 100000 in
set_option maxHeartbeats 4000000 in
theorem main_f (c ev : Bool) (mw : Int) (a3 : Option Addr) (n cap : Nat) (cs es : Nat → Bool) (pos : Int) (p : Nat) (w : World) (hn : n ≤ 1048576) (hpn : n + 1 < p)
   (hrow : 0 < n → ∃ b off, a3 = some ⟨b, off, none⟩ ∧ b < w.heap.size ∧ ∀ i, i < n → w.cell? ⟨b, off + i * 2, none⟩ = some (.bool (cs i)) ∧ w.cell? ⟨b, off + i * 2 + 1, none⟩ = some (.bool (es i))) :
   Calls Yba.prog 3 #[.bool c, .bool ev, .int .i64 mw, .slice a3 n cap, .bool false, .int .u8 pos] w fun e w' => e = .returned (.bool true) ∧ Below w.heap.size w w' := by
  have HR : Hid (0 < n → ∃ b off, a3 = some ⟨b, off, none⟩ ∧ b < w.heap.size ∧ ∀ i, i < n → w.cell? ⟨b, off + i * 2, none⟩ = some (.bool (cs i)) ∧ w.cell? ⟨b, off + i * 2 + 1, none⟩ = some (.bool (es i))) := hrow
  clear hrow
  go_enter Yba.func3, Yba.ntmps3
  go_wp2
  go_loopw [14, 16] (fun h i wr => ∃ k : Nat, k ≤ n + 1 ∧ i = .int .i64 k ∧ ∃ B : List Nat, B.length = min k n ∧ Inv1 w cs es c ev (lst p w.heap.size k B) B h wr) (fun _ i _ => n + 1 - (intOf i).toNat)
  case atStart => exact ⟨0, by omega, rfl, [], by simp, Inv1.start w cs es c ev⟩
  case round =>
    obtain ⟨k, hk, rfl, B, hBl, HI⟩ := hrel
    have hL := length_lst p w.heap.size k B
    by_cases hlt : k < n
    · obtain ⟨b, off, ea, hb, hc⟩ := HR.out (by omega)
      subst ea
      obtain ⟨hc1, hc2⟩ := hc k hlt
      rw [← HI.bel.cell (p := ⟨b, off + k * 2, none⟩) hb] at hc1
      rw [← HI.bel.cell (p := ⟨b, off + k * 2 + 1, none⟩) hb] at hc2
      clear hc
      have HBl : Hid (B.length = k) := by rw [hBl]; exact Nat.min_eq_left (by omega)
      have hBl' : B.length ≤ 1048576 := by rw [HBl.out]; omega
      clear hBl
      by_cases hkp : k = p
      · exact absurd hkp (by omega)
      · have hkp' : ((k : Int) == -1) = false := by simp
        go_wp2
        have HI1 := HI.boxed HBl.out
        have hcl := boxed_cell wr (.cells (hand (cs k) (es k)) 31) (ptr wr.heap.size) 23
        go_region_law (refine step_push rfl (.tmp 54) (.tmp 67) rfl HI1 rfl (wr.heap.size + 1) wr.heap.size rfl hcl (by omega) ?_; intro v' w' HI2)
        all_goals
          go_wp2
          go_roundw
          case rel => exact ⟨k + 1, by omega, by go_num, B ++ [wr.heap.size], by simp [HBl.out]; omega, by rw [lst_other _ _ _ _ _ HBl.out hkp]; exact HI2⟩
          case measure => simp [intOf]; omega
    · have HBl : Hid (B.length = n) := by rw [hBl]; exact Nat.min_eq_right (by omega)
      have hBl' : B.length ≤ 1048576 := by rw [HBl.out]; omega
      clear hBl
      by_cases hkn : k = n
      · by_cases hkp : k = p
        · exact absurd hkp (by omega)
        · have hkp' : ((k : Int) == -1) = false := by simp
          have hkn1 : k ≤ n := by omega
          have HKn : Hid (k = n) := hkn
          clear hkn
          go_wp2
          go_roundw
          case rel => exact ⟨k + 1, by omega, by go_num, B, by rw [HBl.out]; omega, by rw [lst_none _ _ _ _ hkp]; exact HI⟩
          case measure => simp [intOf]; omega
      · have hkn2 : ¬ k ≤ n := by omega
        have HLg : Hid ((lst p w.heap.size k B).length = n) := by rw [length_lst_not _ _ _ _ (by omega)]; exact HBl.out
        have HGet : Hid (∀ i, i < n → i ≠ p → (lst p w.heap.size k B)[i]? = B[jj p i]? ∧ jj p i < B.length) := fun i hi hip => lst_get p w.heap.size k i B (fun h => absurd h (by omega)) (fun h => by rw [HBl.out]; omega) (by rw [HLg.out]; exact hi) hip
        generalize lst p w.heap.size k B = L at HI hL HLg HGet
        obtain ⟨ga, cap2, hv, hform⟩ := HI.form
        rw [HLg.out] at hv hform
        obtain ⟨m, hm⟩ : ∃ m, m = n := ⟨_, rfl⟩
        have HM : Hid (m = n) := hm
        rw [← hm] at hv hform HLg HGet
        have hm1 : m ≤ 1048577 := by omega
        clear hm
        subst hv
        have hmk := run_make_row' (P := Yba.prog) 32 23 (.pointer none) 8 Yba.underlying32 info23 rfl .i64 .i64 m (by omega) (by omega)
        obtain ⟨w2, hcopy, hG, hB, hS, hO⟩ := copy_whole (P := Yba.prog) (wr.alloc (.cells (madeCells #[.pointer none] m) 23)) 32 23 3 Yba.underlying32 (by kernel_rfl) wr.heap.size m m ga cap2 (madeCells #[.pointer none] m) (size_madeCells _ _) (heap_new _ _) (L.map ptr) (by rw [List.length_map]; exact HLg.out)
          (by intro v hv; obtain ⟨z, _, rfl⟩ := List.mem_map.1 hv; rfl)
          (fun h0 => by
            obtain ⟨g, rfl, hg, hc⟩ := hform h0
            refine ⟨_, rfl, fun j v hv => ?_⟩
            rw [List.getElem?_map] at hv
            obtain ⟨x, hx, rfl⟩ := Option.map_eq_some_iff.1 hv
            have e : (⟨g, 0, none⟩ : Addr).add j = ⟨g, j, none⟩ := by unfold Addr.add; split <;> simp_all
            rw [e]
            exact cell_alloc_old (hc j x hx) _)
        have HG : Hid (w2.heap[wr.heap.size]? = some (.cells (L.map ptr).toArray 23 (0, 0))) := hG
        have HS : Hid (w2.heap.size = wr.heap.size + 1) := by rw [hS]; simp [Hid]
        have HO : Hid (∀ k, k ≠ wr.heap.size → w2.heap[k]? = (wr.alloc (.cells (madeCells #[.pointer none] m) 23)).heap[k]?) := hO
        have HF : Hid (0 < m → ∃ g, ga = some ⟨g, 0, none⟩ ∧ g < wr.heap.size ∧ ∀ (j b : Nat), L[j]? = some b → wr.cell? ⟨g, j, none⟩ = some (ptr b)) := hform
        clear hG hS hO hform hL
        have hlt1 : w.heap.size < w2.heap.size := by rw [HS.out]; have := lt_of_heap HI.hh; omega
        have h2a : w2.heap[w.heap.size]? = some (.cells (hand c ev) 31) := by
          have hlt := lt_of_heap HI.hh
          rw [HO.out _ (by omega), Below.heap_alloc _ _ _ hlt]; exact HI.hh
        have H2a : Hid (w2.heap[w.heap.size]? = some (.cells (hand c ev) 31)) := h2a
        clear h2a
        go_wp2_with fail
        refine (checking_heap w2.heap.size w.heap.size c ev _ _ _ _ _ (heap_new w2 _) ((Below.heap_alloc _ _ _ hlt1).trans H2a.out) (by omega)).mono ?_
        rintro e w4 ⟨rfl, k1, k2, k3, k4⟩
        have HJ := Inv2.start HI HLg.out HG.out HO.out HS.out hB k2 k1 (fun k h1 h2 => (k3 k h1 h2).trans (alloc_ne w2 _ k h2)) ((((Below.refl _ _).alloc (by omega) _)).trans (k4 w.heap.size (by omega) (Nat.le_refl _)))
        clear k1 k2 k3 k4 HI hmk hcopy HG HO HF
        obtain ⟨a0, a1, a2, a3', a4, a5⟩ := HJ.hcells
        obtain ⟨b0, b1, b2, b3, b4⟩ := HJ.scells
        have hsH : w.heap.size < w4.heap.size := lt_of_heap HJ.hh
        have hsS : w2.heap.size < w4.heap.size := lt_of_heap HJ.st
        have hch := neq_chan
        go_wp2_with (go_at_call 6; refine (isZero_zero _).mono ?_; rintro e w' ⟨rfl, rfl⟩)
        go_loopw [20, 21] (fun j i wq => ∃ q : Nat, q ≤ m ∧ i = .int .i64 q ∧ j = .int .i64 (jj p q) ∧ Inv2 w cs es ev L B ga m cap2 wr.heap.size w2.heap.size mw wq) (fun _ i _ => m - (intOf i).toNat)
        case atStart => exact ⟨0, Nat.zero_le _, rfl, by rw [jj_zero]; rfl, HJ.alloc _⟩
        case round =>
          clear a0 a1 a2 a3' a4 a5 b0 b1 b2 b3 b4 hsH hsS HJ
          obtain ⟨q, hq, rfl, rfl, HQ⟩ := hrel
          obtain ⟨b0, b1, b2, b3, b4⟩ := HQ.scells
          by_cases hqm : q < m
          · obtain ⟨g, ea, hsrc⟩ := HQ.src (by omega)
            subst ea
            obtain ⟨x, hx⟩ : ∃ x, L[q]? = some x := ⟨_, List.getElem?_eq_getElem (by rw [HLg.out]; exact hqm)⟩
            have s1 := hsrc q x hx
            have s2 := HQ.dst q x hx
            unfold ptr at s1 s2
            clear hsrc
            by_cases hqp : q = p
            · exact absurd hqp (by have := HM.out; omega)
            · have hqp' : ((q : Int) == -1) = false := by simp
              obtain ⟨hg1, hg2⟩ := HGet.out q hqm hqp
              rw [hx] at hg1
              obtain ⟨e0, e1, e2, e3, e4, e5⟩ := HQ.bcells hg1.symm
              have hjn : jj p q < n := by rw [← HBl.out]; exact hg2
              obtain ⟨b, off, ea, hb, hc⟩ := HR.out (by omega)
              subst ea
              obtain ⟨hc1, hc2⟩ := hc (jj p q) hjn
              rw [← HQ.bel.cell (p := ⟨b, off + jj p q * 2, none⟩) hb] at hc1
              rw [← HQ.bel.cell (p := ⟨b, off + jj p q * 2 + 1, none⟩) hb] at hc2
              have HJS : Hid (jj p (q + 1) = jj p q + 1) := jj_succ p q hqp
              clear hc hg1 hg2
              generalize jj p q = jq at *
              have hneq := neq_same
              go_wp2
              go_region
              go_wp2
              have hxs : x < wr.heap.size := World.block_lt_of_cell? wr _ e0
              have hbs : b < wr.heap.size := World.block_lt_of_cell? wr _ hc1
              go_region_held3 (fun w' => w'.cell? ⟨x, 0, none⟩ = some .nilIface ∧ w'.cell? ⟨x, 1, none⟩ = some (.int .u64 0) ∧ w'.cell? ⟨x, 2, none⟩ = some (.int .i64 0) ∧ w'.cell? ⟨x, 3, none⟩ = some (.pointer none) ∧ w'.cell? ⟨x, 4, none⟩ = some (.bool (cs jq)) ∧ w'.cell? ⟨x, 5, none⟩ = some (.bool (es jq)) ∧ w'.cell? ⟨b, off + jq * 2, none⟩ = some (.bool (cs jq)) ∧ w'.cell? ⟨b, off + jq * 2 + 1, none⟩ = some (.bool (es jq)))
                (simp [go_sem, World.cell?_alloc_past, *]) (first | (go_at_call 6; refine (isZero_zero _).mono ?_; rintro e w' ⟨rfl, rfl⟩))
              go_wp2
              go_roundw
              case rel => exact ⟨q + 1, by omega, by go_num, by rw [HJS.out]; go_num, by first | exact HQ.drew.drew.alloc _ | exact (HQ.alloc _).drew.drew⟩
              case measure => simp [intOf]; omega
          · have hfz := frozen_of _ _ 0 _ _ HQ.st
            have hss : w.heap.size ≤ w2.heap.size := by omega
            go_wp2_with (go_at_call 7; refine (trylock_free ⟨w2.heap.size, 0, none⟩ _ b0 hfz).mono ?_; rintro e w' ⟨rfl, rfl⟩)
            refine (unlock_held muLib ⟨w2.heap.size, 0, none⟩ _ (World.cell?_setCell_same wr ⟨w2.heap.size, 0, none⟩ (.int .i32 1) b0) (by simp [hfz])).mono ?_
            rintro e w' ⟨rfl, rfl⟩
            go_wp2
            go_ret
            exact ⟨rfl, (HQ.bel.setCell (p := ⟨w2.heap.size, 0, none⟩) hss _).setCell (p := ⟨w2.heap.size, 0, none⟩) hss _⟩
end Go.Proofs.Ybulkdpxc
