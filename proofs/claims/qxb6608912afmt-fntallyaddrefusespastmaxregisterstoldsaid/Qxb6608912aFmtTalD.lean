/-
  'FnTallyAddRefusesPastMaxRegisters' (3): the law's own body.
-/
import Derived.Test.Qxb6608912aFmtTalC
namespace Go.Proofs.Qxb6608912aFmt.Tal
open Go.RowKit Go.Extern.Stop Go.Stop Go.Extern Go.Maps

set_option maxRecDepth 100000 in
set_option maxHeartbeats 2000000 in
theorem f3_any (F : Interp) (n k x : Int) (w : World) (hF : F.answers w.tape) (h1 : (Lit.int .u8 k).wf = true) (h2 : (Lit.int .u32 x).wf = true) (hk0 : 0 ≤ k) (hk1 : k ≤ 255) (hx0 : 0 ≤ x) (hx1 : x ≤ 4294967295) :
    Calls Tryf.prog 3 #[.int .i64 n, .int .u8 k, .int .u32 x] w fun e w' => e = .returned (.bool true) ∧ Below w.heap.size w w' := by
  have HF := hide hF
  clear hF
  by_cases hn0 : n < 0
  · go_enter Tryf.func3, Tryf.ntmps3
    go_wp2_with fail
    go_ret
    exact ⟨rfl, Below.refl _ _⟩
  by_cases hn1 : 65536 < n
  · go_enter Tryf.func3, Tryf.ntmps3
    go_wp2_with fail
    go_ret
    exact ⟨rfl, Below.refl _ _⟩
  obtain ⟨n, rfl⟩ := Int.eq_ofNat_of_zero_le (show 0 ≤ n by omega)
  go_enter Tryf.func3, Tryf.ntmps3
  go_wp2_with fail
  refine (f6_any _).mono ?_
  rintro e w1 ⟨rfl, ht1, hb1⟩
  have HT1 := hide ht1
  clear ht1
  go_wp2_with fail
  go_loopw [8] (fun i wr => ∃ (j : Nat) (D : DataW Unit), j ≤ n ∧ i = .int .i64 j ∧ Hid (Cnt (min j 1024) D) ∧ Hid (Tal w.heap.size w.heap.size j wr D) ∧ Below w.heap.size w wr) (fun i _ => n - (intOf i).toNat)
  case atStart => exact ⟨0, .map [], Nat.zero_le _, rfl, cnt_start, HT1, hb1⟩
  case round =>
    obtain ⟨j, D, hj, rfl, HC, HT, hbr⟩ := hrel
    clear HT1 hb1
    by_cases hlt : j < n
    · have hj3 : (j : Int) < (n : Int) := by omega
      have wj : (Lit.int .u32 (j : Int)).wf = true := wf32 (by omega) (by omega)
      by_cases hc : j < 1024
      · have hc3 : (j : Int) < 1024 := by omega
        have hmn : min j 1024 = j := by omega
        have hmn2 : min (j + 1) 1024 = j + 1 := by omega
        rw [hmn] at HC
        go_wp2_with fail
        refine (f7_add 1 j 0 w.heap.size w.heap.size j D wr (by decide) wj (by omega) (by omega) (by omega) HT.out (.inr (by rw [HC.out.1]; omega)) (by rw [(HC.out.2 1 j (by decide) wj).2, if_neg (by omega)])).mono ?_
        rintro e w' ⟨rfl, ht', hb', _⟩
        have HC' : Hid (Cnt (min (j + 1) 1024) (D.put (kl 1 j) (.lit (.int .u32 (0 + 1))))) := by rw [hmn2]; exact cnt_step HC.out (tal_tidy HT.out) (by omega)
        have HT' := hide ht'
        have hB : Below w.heap.size w w' := hbr.trans hb'
        clear ht' hb' hmn hmn2
        go_wp2_with fail
        go_roundw
        case rel => exact ⟨j + 1, _, by omega, by go_num, HC', HT', hB⟩
        case measure => simp [intOf]; omega
      · have hc3 : ¬ (j : Int) < 1024 := by omega
        have hmn : min j 1024 = 1024 := by omega
        have hmn2 : min (j + 1) 1024 = 1024 := by omega
        rw [hmn] at HC
        go_wp2_with fail
        refine (f7_no F 1 j w.heap.size w.heap.size j D wr (by rw [hbr.tape]; exact HF.out) (by decide) wj HT.out (by rw [(HC.out.2 1 j (by decide) wj).1]; exact decide_eq_false (by omega)) (by rw [HC.out.1]; omega)).mono ?_
        rintro e w' ⟨⟨a, rfl⟩, ht', hb', _⟩
        have HC' : Hid (Cnt (min (j + 1) 1024) D) := by rw [hmn2]; exact HC.out
        have HT' := hide (tal_mono ht' (Nat.le_succ j))
        have hB : Below w.heap.size w w' := hbr.trans hb'
        clear ht' hb' hmn hmn2
        go_wp2_with fail
        go_roundw
        case rel => exact ⟨j + 1, _, by omega, by go_num, HC', HT', hB⟩
        case measure => simp [intOf]; omega
    · have hjn : j = n := by omega
      subst hjn
      by_cases hnf : (1024 : Int) < (j : Int)
      · have hmn : min j 1024 = 1024 := by omega
        rw [hmn] at HC
        by_cases hk : k = 1
        · subst hk
          by_cases hx : x < 1024
          · have HT0 : Hid (∀ o, Tal w.heap.size w.heap.size j (wr.alloc o) D) := fun o => tal_kept HT.out ((Below.refl _ _).alloc (Nat.le_refl _) o)
            have HB0 : Hid (∀ o, Below w.heap.size w (wr.alloc o)) := fun o => hbr.alloc hbr.size o
            have hR0 : (wr.alloc (.cells #[.int .u8 1, .int .u32 x] 31)).heap[wr.heap.size]? = some (.cells #[.int .u8 1, .int .u32 x] 31 (0, 0)) := heap_alloc_new wr _
            have HR0 := hide hR0
            clear hR0
            go_wp2_with fail
            refine (f7_add 1 x 1 w.heap.size w.heap.size j D _ h1 h2 (by omega) (by omega) (by omega) (HT0.out _) (.inl (by rw [(HC.out.2 _ x h1 h2).1]; exact decide_eq_true ⟨rfl, by omega⟩)) (by rw [(HC.out.2 _ x h1 h2).2, if_pos ⟨rfl, by omega⟩])).mono ?_
            rintro e wa ⟨rfl, hta, hba, hka⟩
            have hRa := hka _ _ HR0.out
            have ra0 : wa.cell? ⟨wr.heap.size, 0, none⟩ = some (.int .u8 1) := by rw [cell_of_row _ _ _ _ _ _ hRa]; rfl
            have ra1 : wa.cell? ⟨wr.heap.size, 1, none⟩ = some (.int .u32 x) := by rw [cell_of_row _ _ _ _ _ _ hRa]; rfl
            have HTa := hide hta
            have hBa : Below w.heap.size w wa := (HB0.out _).trans hba
            clear hta hba hka hRa
            go_wp2_with fail
            refine (f7_add 1 x (1 + 1) w.heap.size w.heap.size (j + 1) _ wa h1 h2 (by omega) (by omega) (by omega) HTa.out (.inl (has_put_same (tal_tidy HT.out).isMap (kl_key h1 h2) _)) (atKey_put_same (tal_tidy HT.out).isMap (kl_key h1 h2) _ _)).mono ?_
            rintro e wb ⟨rfl, htb, hbb, _⟩
            have hBb : Below w.heap.size w wb := hBa.trans hbb
            clear htb hbb
            go_wp2_with fail
            go_ret
            exact ⟨rfl, hBb⟩
          · have HT0 : Hid (∀ o, Tal w.heap.size w.heap.size j (wr.alloc o) D) := fun o => tal_kept HT.out ((Below.refl _ _).alloc (Nat.le_refl _) o)
            have HB0 : Hid (∀ o, Below w.heap.size w (wr.alloc o)) := fun o => hbr.alloc hbr.size o
            have hR0 : (wr.alloc (.cells #[.int .u8 1, .int .u32 x] 31)).heap[wr.heap.size]? = some (.cells #[.int .u8 1, .int .u32 x] 31 (0, 0)) := heap_alloc_new wr _
            have HR0 := hide hR0
            clear hR0
            go_wp2_with fail
            refine (f7_no F 1 x w.heap.size w.heap.size j D _ (by rw [(HB0.out _).tape]; exact HF.out) h1 h2 (HT0.out _) (by rw [(HC.out.2 _ x h1 h2).1]; exact decide_eq_false (by omega)) (by rw [HC.out.1]; omega)).mono ?_
            rintro e wa ⟨⟨a1, rfl⟩, hta, hba, hka⟩
            have hRa := hka _ _ HR0.out
            have ra0 : wa.cell? ⟨wr.heap.size, 0, none⟩ = some (.int .u8 1) := by rw [cell_of_row _ _ _ _ _ _ hRa]; rfl
            have ra1 : wa.cell? ⟨wr.heap.size, 1, none⟩ = some (.int .u32 x) := by rw [cell_of_row _ _ _ _ _ _ hRa]; rfl
            have HTa := hide hta
            have hBa : Below w.heap.size w wa := (HB0.out _).trans hba
            clear hta hba hka hRa
            go_wp2_with fail
            refine (f7_no F 1 x w.heap.size w.heap.size j D _ (by rw [hBa.tape]; exact HF.out) h1 h2 HTa.out (by rw [(HC.out.2 _ x h1 h2).1]; exact decide_eq_false (by omega)) (by rw [HC.out.1]; omega)).mono ?_
            rintro e wb ⟨⟨a2, rfl⟩, htb, hbb, _⟩
            have hBb : Below w.heap.size w wb := hBa.trans hbb
            clear htb hbb
            go_wp2_with fail
            go_ret
            exact ⟨rfl, hBb⟩
        · have hkb : (k == 1) = false := beq_eq_false_iff_ne.2 hk
          have HT0 : Hid (∀ o, Tal w.heap.size w.heap.size j (wr.alloc o) D) := fun o => tal_kept HT.out ((Below.refl _ _).alloc (Nat.le_refl _) o)
          have HB0 : Hid (∀ o, Below w.heap.size w (wr.alloc o)) := fun o => hbr.alloc hbr.size o
          have hR0 : (wr.alloc (.cells #[.int .u8 k, .int .u32 x] 31)).heap[wr.heap.size]? = some (.cells #[.int .u8 k, .int .u32 x] 31 (0, 0)) := heap_alloc_new wr _
          have HR0 := hide hR0
          clear hR0
          go_wp2_with fail
          refine (f7_no F k x w.heap.size w.heap.size j D _ (by rw [(HB0.out _).tape]; exact HF.out) h1 h2 (HT0.out _) (by rw [(HC.out.2 _ x h1 h2).1]; exact decide_eq_false (by omega)) (by rw [HC.out.1]; omega)).mono ?_
          rintro e wa ⟨⟨a1, rfl⟩, hta, hba, hka⟩
          have hRa := hka _ _ HR0.out
          have ra0 : wa.cell? ⟨wr.heap.size, 0, none⟩ = some (.int .u8 k) := by rw [cell_of_row _ _ _ _ _ _ hRa]; rfl
          have ra1 : wa.cell? ⟨wr.heap.size, 1, none⟩ = some (.int .u32 x) := by rw [cell_of_row _ _ _ _ _ _ hRa]; rfl
          have HTa := hide hta
          have hBa : Below w.heap.size w wa := (HB0.out _).trans hba
          clear hta hba hka hRa
          go_wp2_with fail
          refine (f7_no F k x w.heap.size w.heap.size j D _ (by rw [hBa.tape]; exact HF.out) h1 h2 HTa.out (by rw [(HC.out.2 _ x h1 h2).1]; exact decide_eq_false (by omega)) (by rw [HC.out.1]; omega)).mono ?_
          rintro e wb ⟨⟨a2, rfl⟩, htb, hbb, _⟩
          have hBb : Below w.heap.size w wb := hBa.trans hbb
          clear htb hbb
          go_wp2_with fail
          go_ret
          exact ⟨rfl, hBb⟩
      · have hmn : min j 1024 = j := by omega
        rw [hmn] at HC
        by_cases hk : k = 1
        · subst hk
          by_cases hx : x < (j : Int)
          · have HT0 : Hid (∀ o, Tal w.heap.size w.heap.size j (wr.alloc o) D) := fun o => tal_kept HT.out ((Below.refl _ _).alloc (Nat.le_refl _) o)
            have HB0 : Hid (∀ o, Below w.heap.size w (wr.alloc o)) := fun o => hbr.alloc hbr.size o
            have hR0 : (wr.alloc (.cells #[.int .u8 1, .int .u32 x] 31)).heap[wr.heap.size]? = some (.cells #[.int .u8 1, .int .u32 x] 31 (0, 0)) := heap_alloc_new wr _
            have HR0 := hide hR0
            clear hR0
            go_wp2_with fail
            refine (f7_add 1 x 1 w.heap.size w.heap.size j D _ h1 h2 (by omega) (by omega) (by omega) (HT0.out _) (.inl (by rw [(HC.out.2 _ x h1 h2).1]; exact decide_eq_true ⟨rfl, by omega⟩)) (by rw [(HC.out.2 _ x h1 h2).2, if_pos ⟨rfl, by omega⟩])).mono ?_
            rintro e wa ⟨rfl, hta, hba, hka⟩
            have hRa := hka _ _ HR0.out
            have ra0 : wa.cell? ⟨wr.heap.size, 0, none⟩ = some (.int .u8 1) := by rw [cell_of_row _ _ _ _ _ _ hRa]; rfl
            have ra1 : wa.cell? ⟨wr.heap.size, 1, none⟩ = some (.int .u32 x) := by rw [cell_of_row _ _ _ _ _ _ hRa]; rfl
            have HTa := hide hta
            have hBa : Below w.heap.size w wa := (HB0.out _).trans hba
            clear hta hba hka hRa
            go_wp2_with fail
            refine (f7_add 1 x (1 + 1) w.heap.size w.heap.size (j + 1) _ wa h1 h2 (by omega) (by omega) (by omega) HTa.out (.inl (has_put_same (tal_tidy HT.out).isMap (kl_key h1 h2) _)) (atKey_put_same (tal_tidy HT.out).isMap (kl_key h1 h2) _ _)).mono ?_
            rintro e wb ⟨rfl, htb, hbb, _⟩
            have hBb : Below w.heap.size w wb := hBa.trans hbb
            clear htb hbb
            go_wp2_with fail
            go_ret
            exact ⟨rfl, hBb⟩
          · by_cases hj4 : (1024 : Int) ≤ (j : Int)
            · have HT0 : Hid (∀ o, Tal w.heap.size w.heap.size j (wr.alloc o) D) := fun o => tal_kept HT.out ((Below.refl _ _).alloc (Nat.le_refl _) o)
              have HB0 : Hid (∀ o, Below w.heap.size w (wr.alloc o)) := fun o => hbr.alloc hbr.size o
              have hR0 : (wr.alloc (.cells #[.int .u8 1, .int .u32 x] 31)).heap[wr.heap.size]? = some (.cells #[.int .u8 1, .int .u32 x] 31 (0, 0)) := heap_alloc_new wr _
              have HR0 := hide hR0
              clear hR0
              go_wp2_with fail
              refine (f7_no F 1 x w.heap.size w.heap.size j D _ (by rw [(HB0.out _).tape]; exact HF.out) h1 h2 (HT0.out _) (by rw [(HC.out.2 _ x h1 h2).1]; exact decide_eq_false (by omega)) (by rw [HC.out.1]; omega)).mono ?_
              rintro e wa ⟨⟨a1, rfl⟩, hta, hba, hka⟩
              have hRa := hka _ _ HR0.out
              have ra0 : wa.cell? ⟨wr.heap.size, 0, none⟩ = some (.int .u8 1) := by rw [cell_of_row _ _ _ _ _ _ hRa]; rfl
              have ra1 : wa.cell? ⟨wr.heap.size, 1, none⟩ = some (.int .u32 x) := by rw [cell_of_row _ _ _ _ _ _ hRa]; rfl
              have HTa := hide hta
              have hBa : Below w.heap.size w wa := (HB0.out _).trans hba
              clear hta hba hka hRa
              go_wp2_with fail
              refine (f7_no F 1 x w.heap.size w.heap.size j D _ (by rw [hBa.tape]; exact HF.out) h1 h2 HTa.out (by rw [(HC.out.2 _ x h1 h2).1]; exact decide_eq_false (by omega)) (by rw [HC.out.1]; omega)).mono ?_
              rintro e wb ⟨⟨a2, rfl⟩, htb, hbb, _⟩
              have hBb : Below w.heap.size w wb := hBa.trans hbb
              clear htb hbb
              go_wp2_with fail
              go_ret
              exact ⟨rfl, hBb⟩
            · have HT0 : Hid (∀ o, Tal w.heap.size w.heap.size j (wr.alloc o) D) := fun o => tal_kept HT.out ((Below.refl _ _).alloc (Nat.le_refl _) o)
              have HB0 : Hid (∀ o, Below w.heap.size w (wr.alloc o)) := fun o => hbr.alloc hbr.size o
              have hR0 : (wr.alloc (.cells #[.int .u8 1, .int .u32 x] 31)).heap[wr.heap.size]? = some (.cells #[.int .u8 1, .int .u32 x] 31 (0, 0)) := heap_alloc_new wr _
              have HR0 := hide hR0
              clear hR0
              go_wp2_with fail
              refine (f7_add 1 x 0 w.heap.size w.heap.size j D _ h1 h2 (by omega) (by omega) (by omega) (HT0.out _) (.inr (by rw [HC.out.1]; omega)) (by rw [(HC.out.2 _ x h1 h2).2, if_neg (by omega)])).mono ?_
              rintro e wa ⟨rfl, hta, hba, hka⟩
              have hRa := hka _ _ HR0.out
              have ra0 : wa.cell? ⟨wr.heap.size, 0, none⟩ = some (.int .u8 1) := by rw [cell_of_row _ _ _ _ _ _ hRa]; rfl
              have ra1 : wa.cell? ⟨wr.heap.size, 1, none⟩ = some (.int .u32 x) := by rw [cell_of_row _ _ _ _ _ _ hRa]; rfl
              have HTa := hide hta
              have hBa : Below w.heap.size w wa := (HB0.out _).trans hba
              clear hta hba hka hRa
              go_wp2_with fail
              refine (f7_add 1 x (0 + 1) w.heap.size w.heap.size (j + 1) _ wa h1 h2 (by omega) (by omega) (by omega) HTa.out (.inl (has_put_same (tal_tidy HT.out).isMap (kl_key h1 h2) _)) (atKey_put_same (tal_tidy HT.out).isMap (kl_key h1 h2) _ _)).mono ?_
              rintro e wb ⟨rfl, htb, hbb, _⟩
              have hBb : Below w.heap.size w wb := hBa.trans hbb
              clear htb hbb
              go_wp2_with fail
              go_ret
              exact ⟨rfl, hBb⟩
        · have hkb : (k == 1) = false := beq_eq_false_iff_ne.2 hk
          by_cases hj4 : (1024 : Int) ≤ (j : Int)
          · have HT0 : Hid (∀ o, Tal w.heap.size w.heap.size j (wr.alloc o) D) := fun o => tal_kept HT.out ((Below.refl _ _).alloc (Nat.le_refl _) o)
            have HB0 : Hid (∀ o, Below w.heap.size w (wr.alloc o)) := fun o => hbr.alloc hbr.size o
            have hR0 : (wr.alloc (.cells #[.int .u8 k, .int .u32 x] 31)).heap[wr.heap.size]? = some (.cells #[.int .u8 k, .int .u32 x] 31 (0, 0)) := heap_alloc_new wr _
            have HR0 := hide hR0
            clear hR0
            go_wp2_with fail
            refine (f7_no F k x w.heap.size w.heap.size j D _ (by rw [(HB0.out _).tape]; exact HF.out) h1 h2 (HT0.out _) (by rw [(HC.out.2 _ x h1 h2).1]; exact decide_eq_false (by omega)) (by rw [HC.out.1]; omega)).mono ?_
            rintro e wa ⟨⟨a1, rfl⟩, hta, hba, hka⟩
            have hRa := hka _ _ HR0.out
            have ra0 : wa.cell? ⟨wr.heap.size, 0, none⟩ = some (.int .u8 k) := by rw [cell_of_row _ _ _ _ _ _ hRa]; rfl
            have ra1 : wa.cell? ⟨wr.heap.size, 1, none⟩ = some (.int .u32 x) := by rw [cell_of_row _ _ _ _ _ _ hRa]; rfl
            have HTa := hide hta
            have hBa : Below w.heap.size w wa := (HB0.out _).trans hba
            clear hta hba hka hRa
            go_wp2_with fail
            refine (f7_no F k x w.heap.size w.heap.size j D _ (by rw [hBa.tape]; exact HF.out) h1 h2 HTa.out (by rw [(HC.out.2 _ x h1 h2).1]; exact decide_eq_false (by omega)) (by rw [HC.out.1]; omega)).mono ?_
            rintro e wb ⟨⟨a2, rfl⟩, htb, hbb, _⟩
            have hBb : Below w.heap.size w wb := hBa.trans hbb
            clear htb hbb
            go_wp2_with fail
            go_ret
            exact ⟨rfl, hBb⟩
          · have HT0 : Hid (∀ o, Tal w.heap.size w.heap.size j (wr.alloc o) D) := fun o => tal_kept HT.out ((Below.refl _ _).alloc (Nat.le_refl _) o)
            have HB0 : Hid (∀ o, Below w.heap.size w (wr.alloc o)) := fun o => hbr.alloc hbr.size o
            have hR0 : (wr.alloc (.cells #[.int .u8 k, .int .u32 x] 31)).heap[wr.heap.size]? = some (.cells #[.int .u8 k, .int .u32 x] 31 (0, 0)) := heap_alloc_new wr _
            have HR0 := hide hR0
            clear hR0
            go_wp2_with fail
            refine (f7_add k x 0 w.heap.size w.heap.size j D _ h1 h2 (by omega) (by omega) (by omega) (HT0.out _) (.inr (by rw [HC.out.1]; omega)) (by rw [(HC.out.2 _ x h1 h2).2, if_neg (by omega)])).mono ?_
            rintro e wa ⟨rfl, hta, hba, hka⟩
            have hRa := hka _ _ HR0.out
            have ra0 : wa.cell? ⟨wr.heap.size, 0, none⟩ = some (.int .u8 k) := by rw [cell_of_row _ _ _ _ _ _ hRa]; rfl
            have ra1 : wa.cell? ⟨wr.heap.size, 1, none⟩ = some (.int .u32 x) := by rw [cell_of_row _ _ _ _ _ _ hRa]; rfl
            have HTa := hide hta
            have hBa : Below w.heap.size w wa := (HB0.out _).trans hba
            clear hta hba hka hRa
            go_wp2_with fail
            refine (f7_add k x (0 + 1) w.heap.size w.heap.size (j + 1) _ wa h1 h2 (by omega) (by omega) (by omega) HTa.out (.inl (has_put_same (tal_tidy HT.out).isMap (kl_key h1 h2) _)) (atKey_put_same (tal_tidy HT.out).isMap (kl_key h1 h2) _ _)).mono ?_
            rintro e wb ⟨rfl, htb, hbb, _⟩
            have hBb : Below w.heap.size w wb := hBa.trans hbb
            clear htb hbb
            go_wp2_with fail
            go_ret
            exact ⟨rfl, hBb⟩
end Go.Proofs.Qxb6608912aFmt.Tal
