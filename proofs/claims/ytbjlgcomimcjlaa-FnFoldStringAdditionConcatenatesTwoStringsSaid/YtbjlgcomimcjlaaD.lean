/-
  The law's walk over this seat's translation, the left literal not preferring a template: copies, the fold, and the two loops that compare.
-/
import Derived.Test.YtbjlgcomimcjlaaC
set_option linter.unusedSimpArgs false
set_option linter.unusedVariables false
namespace Go.Proofs.Ytbjlgcomimcjlaa
open Go.RowKit

theorem clone_empty (x : Addr) (cap : Nat) (w : World) :
    Calls Try.prog 5 #[.slice (some x) 0 cap] w fun e w' => ∃ v', e = .returned v' ∧ U16 w' v' [] ∧ Below w.heap.size w w' := by
  have e0 := fun wx => Lib.run_eql_slice_nil (P := Try.prog) wx 22 36 (some x) 0 cap 0 0 Try.underlying22
  obtain ⟨i0, hi, hz0, hz1, hz2⟩ := info_parts info36
  go_enter Try.func5, Try.ntmps5
  go_wp2_with (at_make; refine wpList_make_full _ rfl _ _ 22 rfl w.heap.size 36 i0 (.int .u16 0) 1 Try.underlying22 hi hz0 hz1 _ _ _ _ 0 rfl rfl rfl rfl ?b1 ?b2 ?b3 ?_)
  case b1 => omega
  case b2 => unfold maxLen; omega
  case b3 => omega
  intro w1 hown hgrow
  clear hi hz0 hz1 hz2
  have hb1 : Below w.heap.size w w1 := (Below.refl _ _).grown hgrow (Nat.le_refl _) (by simp)
  clear hgrow e0
  go_wp2
  go_loopw [4] (fun i wr => i = .int .i64 0 ∧ w1 = wr) (fun _ _ => 0)
  case atStart => exact ⟨rfl, rfl⟩
  case round =>
    obtain ⟨rfl, rfl⟩ := hrel
    go_wp2
    go_ret
    exact ⟨_, rfl, U16.own (xs := []) (by simpa [madeCells] using hown), hb1⟩

/-- What the walk is told of a slice of numbers that came in. -/
def InRow (k : IntKind) (w : World) (a : Option Addr) (len cap : Nat) (zs : List Int) : Prop :=
  (a = none ∧ len = 0 ∧ cap = 0 ∧ zs = []) ∨
  ∃ x, a = some x ∧ len ≤ cap ∧ cap ≤ maxLen ∧ zs.length = cap ∧ (∀ i, i < zs.length → w.cell? (x.add i) = some (.int k (zs.getD i 0))) ∧ ∀ n ∈ zs, (Lit.int k n).wf = true

theorem InRow.mono {k : IntKind} {w w' : World} {a : Option Addr} {len cap : Nat} {zs : List Int} (h : InRow k w a len cap zs) (hb : Below w.heap.size w w') : InRow k w' a len cap zs := by
  rcases h with h | ⟨x, h1, h2, h3, h4, h5, h6⟩
  · exact .inl h
  · exact .inr ⟨x, h1, h2, h3, h4, fun i hi => ck (h5 i hi) hb, h6⟩

theorem U16.cases {w : World} {a : Option Addr} {n c : Nat} {xs : List Int} (h : U16 w (.slice a n c) xs) (hx : xs.length = n) :
    ∃ b off, (a = some ⟨b, off, none⟩ ∨ (a = none ∧ n ≤ 0)) ∧ ∀ i, i < n → w.cell? ⟨b, off + i, none⟩ = some (.int .u16 (xs.getD i 0)) := by
  rcases h with ⟨h1, h2⟩ | ⟨b, off, cap, h1, h2, h3, h4⟩
  · simp only [Value.slice.injEq] at h1
    exact ⟨0, 0, .inr ⟨h1.1, by omega⟩, fun i hi => absurd hi (by omega)⟩
  · simp only [Value.slice.injEq] at h1
    exact ⟨b, off, .inl h1.1, by rw [← hx]; exact h4⟩

theorem clone_row (a : Option Addr) (len cap : Nat) (zs : List Int) (w : World) (h : InRow .u16 w a len cap zs) (hl : len ≤ 262144) :
    Calls Try.prog 5 #[.slice a len cap] w fun e w' => ∃ a' c' xs, e = .returned (.slice a' len c') ∧ xs.length = len ∧ U16 w' (.slice a' len c') xs ∧ Below w.heap.size w w' := by
  have fin : ∀ xs : List Int, xs.length = len → (Calls Try.prog 5 #[.slice a len cap] w fun e w' => ∃ v', e = .returned v' ∧ U16 w' v' xs ∧ Below w.heap.size w w') → 
      Calls Try.prog 5 #[.slice a len cap] w fun e w' => ∃ a' c' xs, e = .returned (.slice a' len c') ∧ xs.length = len ∧ U16 w' (.slice a' len c') xs ∧ Below w.heap.size w w' := by
    intro xs hx hc
    refine hc.mono fun e w' ⟨v', he, hu, hb⟩ => ?_
    obtain ⟨a', c', rfl⟩ := hu.form
    rw [hx] at he hu
    exact ⟨a', c', xs, he, hx, hu, hb⟩
  rcases h with ⟨rfl, rfl, rfl, rfl⟩ | ⟨x, rfl, h1, h2, h3, h4, h5⟩
  · exact fin [] rfl (clone_any _ _ _ (.inl ⟨rfl, rfl⟩) (by simp))
  · by_cases h0 : len = 0
    · subst h0
      exact fin [] rfl (clone_empty x cap w)
    · obtain ⟨b, off, spot⟩ := x
      have hc := h4 0 (by omega)
      have hspot : spot = none := by simpa [Addr.add] using World.cell?_spot hc
      subst hspot
      have hlen : (zs.take len).length = len := by simp; omega
      refine fin (zs.take len) hlen (clone_any _ _ _ (.inr ⟨b, off, cap, by rw [hlen], by rw [hlen]; exact h1, ?_, fun i hi => ?_⟩) (by omega))
      · have := World.block_lt_of_cell? _ _ hc
        simpa [Addr.add] using this
      · rw [hlen] at hi
        have := h4 i (by omega)
        rw [Addr.add_lit] at this
        rw [this]
        simp [List.getD, hi, List.getElem?_take]
theorem zz_bytes (a0 a2 : Option Addr) (l0 c0 l2 c2 : Nat) (b1 b3 : Bool) (k la lb : Int) (w : World) (h0 : l0 ≤ maxLen) (h2 : l2 ≤ maxLen) :
    Calls Try.prog 4 #[.slice a0 l0 c0, .bool b1, .slice a2 l2 c2, .bool b3, .int .u8 k, .int .i32 la, .int .i32 lb] w fun e w' => e = .returned (.bool (decide (l0 + l2 ≤ 1048576))) ∧ w = w' := by
  unfold maxLen at h0 h2
  by_cases q1 : l0 ≤ 1048576
  · by_cases q2 : l2 ≤ 1048576
    · by_cases q3 : l0 + l2 ≤ 1048576
      all_goals
        go_enter Try.func4, Try.ntmps4
        go_wp2
        go_ret
        exact ⟨by simp [q3], rfl⟩
    · go_enter Try.func4, Try.ntmps4
      go_wp2
      go_ret
      exact ⟨by simp; omega, rfl⟩
  · go_enter Try.func4, Try.ntmps4
    go_wp2
    go_ret
    exact ⟨by simp; omega, rfl⟩

theorem fold_all (n m : Nat) (la lb k : Int) (a : Option Addr) (c : Nat) (xs : List Int) (a2 : Option Addr) (c2 : Nat) (ys : List Int) (p q : Bool) (N1 N2 : Nat) (w : World)
    (hN1 : xs.length = N1) (hN2 : ys.length = N2)
    (hu1 : U16 w (.slice a N1 c) xs) (hu2 : U16 w (.slice a2 N2 c2) ys)
    (hl1 : N1 ≤ 262144) (hl2 : N2 ≤ 262144) (h1 : w.cell? ⟨n, 0, none⟩ = some (.slice a N1 c)) (h2 : w.cell? ⟨n, 2, none⟩ = some (.bool p))
    (g1 : w.cell? ⟨m, 0, none⟩ = some (.slice a2 N2 c2)) (g2 : w.cell? ⟨m, 2, none⟩ = some (.bool q)) :
    Calls Try.prog 7 #[.agg #[.iface 37 (.pointer (some ⟨n, 0, none⟩)), .int .i32 la], .agg #[.iface 37 (.pointer (some ⟨m, 0, none⟩)), .int .i32 lb], .int .u8 k] w
      (FoldPost w la (N1 + N2) (xs ++ ys) (p || q)) := by
  subst hN1
  subst hN2
  have hn := lt_cell h1
  have hm := lt_cell g1
  by_cases hk : k = 1
  · subst hk
    cases p
    · exact fold_f1 n m la lb a c xs a2 c2 ys q w hu1 hu2 hl1 hl2 hn hm h1 h2 _ rfl g1 g2
    · exact fold_t1 n m la lb a c xs a2 c2 ys q w hu1 hu2 hl1 hl2 hn hm h1 h2 _ rfl g1 g2
  · have hk' : (k == 1) = false := by simpa using hk
    cases p
    · exact fold_fk n m la lb k hk' a c xs a2 c2 ys q w hu1 hu2 hl1 hl2 hn hm h1 h2 _ rfl g1 g2
    · exact fold_tk n m la lb k hk' a c xs a2 c2 ys q w hu1 hu2 hl1 hl2 hn hm h1 h2 _ rfl g1 g2

set_option maxRecDepth 100000 in
set_option maxHeartbeats 1600000 in
theorem walk_f (a0 : Option Addr) (len0 cap0 : Nat) (z0 : List Int) (a2 : Option Addr) (len2 cap2 : Nat) (z2 : List Int) (a3 : Bool) (a4 : Int) (a5 : Int) (a6 : Int) (w : World) (w0 : InRow .u16 w a0 len0 cap0 z0) (w2 : InRow .u16 w a2 len2 cap2 z2)
    (h0 : len0 ≤ 262144) (h2 : len2 ≤ 262144) :
    Calls Try.prog 3 #[.slice a0 len0 cap0, .bool false, .slice a2 len2 cap2, .bool a3, .int .u8 a4, .int .i32 a5, .int .i32 a6] w fun e w' => e = .returned (.bool true) ∧ Below w.heap.size w w' := by
  have W0 := Lib.hid w0
  have W2 := Lib.hid w2
  clear w0 w2
  have ez : decide (len0 + len2 ≤ 1048576) = true := by simp; omega
  go_enter Try.func3, Try.ntmps3
  go_wp2_with fail
  refine (zz_bytes _ _ _ _ _ _ _ _ _ _ _ _ (by unfold maxLen; omega) (by unfold maxLen; omega)).mono ?_
  rintro e w' ⟨rfl, rfl⟩
  rw [ez]
  clear ez
  go_wp2_with fail
  refine (clone_row _ _ _ _ _ W0.out h0).mono ?_
  rintro e wa ⟨aa, kap0, xs, rfl, hx, hua, hba⟩
  have HX := Lib.hid hx
  have HUA := Lib.hid hua
  have HBA := Lib.hid hba
  clear hx hua hba
  go_wp2_with fail
  refine (clone_row _ _ _ _ _ (W2.out.mono HBA.out) h2).mono ?_
  rintro e wb ⟨ab, kap2, ys, rfl, hy, hub, hbb⟩
  have HY := Lib.hid hy
  have HUB := Lib.hid hub
  have HUA2 := Lib.hid (HUA.out.mono hbb)
  have HBB := Lib.hid (HBA.out.trans (hbb.mono HBA.out.size))
  clear hy hub hbb HUA HBA
  go_wp2_with fail
  refine (string_any _ _ _ _ _ _).mono ?_
  rintro e ws ⟨rfl, hbs, hzs, hs0, hs2⟩
  have HUA := Lib.hid (HUA2.out.mono hbs)
  have HUB2 := Lib.hid (HUB.out.mono hbs)
  have HBS := Lib.hid (HBB.out.trans (hbs.mono HBB.out.size))
  have HS0 := Lib.hid hs0
  have HS2 := Lib.hid hs2
  clear hbs hs0 hs2 HUA2 HUB HBB hzs
  go_wp2_with fail
  refine (string_any _ _ _ _ _ _).mono ?_
  rintro e wt ⟨rfl, hbt, hzt, ht0, ht2⟩
  have HUA2 := Lib.hid ((HUA.out.mono (ba _ _)).mono hbt)
  have HUB := Lib.hid ((HUB2.out.mono (ba _ _)).mono hbt)
  have HBT := Lib.hid ((HBS.out.trans ((ba _ _).mono HBS.out.size)).trans (hbt.mono (Nat.le_trans HBS.out.size (ba _ _).size)))
  have HS0' := Lib.hid (ck (ca HS0.out) hbt)
  have HS2' := Lib.hid (ck (ca HS2.out) hbt)
  have hx0 := ck (show (ws.alloc (.cells #[.iface 37 (.pointer (some ⟨wb.heap.size + 1, 0, none⟩)), .int .i32 a5] 30)).cell? ⟨ws.heap.size, 0, none⟩ = some (.iface 37 (.pointer (some ⟨wb.heap.size + 1, 0, none⟩))) from World.cell?_alloc_new ws _ _ 0) hbt
  have hx1 := ck (show (ws.alloc (.cells #[.iface 37 (.pointer (some ⟨wb.heap.size + 1, 0, none⟩)), .int .i32 a5] 30)).cell? ⟨ws.heap.size, 1, none⟩ = some (.int .i32 a5) from World.cell?_alloc_new ws _ _ 1) hbt
  have hlt := lt_cell hx0
  have HT0 := Lib.hid (show wt.cell? ⟨ws.heap.size + 1 + 1, 0, none⟩ = some (.slice ab len2 kap2) by simpa using ht0)
  have HT2 := Lib.hid (show wt.cell? ⟨ws.heap.size + 1 + 1, 2, none⟩ = some (.bool a3) by simpa using ht2)
  clear hbt ht0 ht2 HUA HUB2 HBS HS0 HS2 hzt
  go_wp2_with fail
  refine (fold_all _ _ _ _ _ _ _ xs _ _ ys _ _ _ _ _ HX.out HY.out (HUA2.out.mono (ba _ _)) (HUB.out.mono (ba _ _)) h0 h2 (ca HS0'.out) (ca HS2'.out) (ca HT0.out) (ca HT2.out)).mono ?_
  rintro e wf ⟨r, a9, c9, rfl, hbf, hrlt, hr0, hr2, hur⟩
  have HUF := Lib.hid hur
  have HAF := Lib.hid ((HUA2.out.mono (ba _ _)).mono hbf)
  have HBF := Lib.hid ((HUB.out.mono (ba _ _)).mono hbf)
  have HBW := Lib.hid ((HBT.out.trans ((ba _ _).mono HBT.out.size)).trans (hbf.mono (Nat.le_trans HBT.out.size (ba _ _).size)))
  clear hbf hur HUA2 HUB HBT hx0 hx1 hlt HS0' HS2' HT0 HT2
  go_wp2_with fail
  refine (asstr_any r _ _ _ _ _ _ (Nat.lt_of_lt_of_le hrlt (ba _ _).size) (ca hr0) (ca hr2)).mono ?_
  rintro e wg ⟨rfl, hbg⟩
  have hq := ck (show (wf.alloc (.cells #[.iface 37 (.pointer (some ⟨r, 0, none⟩)), .int .i32 a5] 30)).cell? ⟨wf.heap.size, 1, none⟩ = some (.int .i32 a5) from World.cell?_alloc_new wf _ _ 1) hbg
  have hlt := lt_cell hq
  have HU := Lib.hid ((HUF.out.mono (ba _ _)).mono hbg)
  have HA := Lib.hid ((HAF.out.mono (ba _ _)).mono hbg)
  have HB := Lib.hid ((HBF.out.mono (ba _ _)).mono hbg)
  have HW := Lib.hid ((HBW.out.trans ((ba _ _).mono HBW.out.size)).trans (hbg.mono (Nat.le_trans HBW.out.size (ba _ _).size)))
  clear hbg HUF HAF HBF HBW hrlt hr0 hr2
  go_wp2_with fail
  have hxy : (xs ++ ys).length = len0 + len2 := by rw [List.length_append, HX.out, HY.out]
  obtain ⟨b1, o1, hA, hc1⟩ := HA.out.cases HX.out
  obtain ⟨b2, o2, hB, hc2⟩ := HB.out.cases HY.out
  obtain ⟨b3, o3, hU, hc3⟩ := HU.out.cases hxy
  rcases hA with rfl | ⟨rfl, n1⟩ <;> rcases hB with rfl | ⟨rfl, n2⟩ <;> rcases hU with rfl | ⟨rfl, n3⟩
  all_goals
    have HC1 := Lib.hid hc1
    have HC2 := Lib.hid hc2
    have HC3 := Lib.hid hc3
    clear hc1 hc2 hc3 hxy HU HA HB hq hlt
    go_loopw [21] (fun i wr => ∃ k : Nat, k ≤ len0 ∧ i = .int .i64 k ∧ Below wg.heap.size wg wr) (fun i _ => len0 - (intOf i).toNat)
    case atStart => exact ⟨0, Nat.zero_le _, rfl, Below.refl _ _⟩
    case round =>
      obtain ⟨k, hk, rfl, hbr⟩ := hrel
      by_cases hlt : k < len0
      · try (exfalso; omega)
        all_goals
          have e1 := ck (HC1.out k hlt) hbr
          have e3 := ck (HC3.out k (by omega)) hbr
          have ex : (xs ++ ys).getD k 0 = xs.getD k 0 := by
            have := HX.out
            simp [List.getD, List.getElem?_append, this, hlt]
          rw [ex] at e3
          generalize xs.getD k 0 = x at e1 e3
          have i0 : (0 : Int) ≤ (k : Int) := Int.natCast_nonneg _
          have i1 : (k : Int) < (len0 : Int) := by omega
          have i3 : (k : Int) < (len0 : Int) + (len2 : Int) := by omega
          have hbr2 := Lib.hid hbr
          clear hbr ex
          go_wp2
          go_quiet (fail)
          go_wp2
          go_roundw
          case rel => exact ⟨k + 1, by omega, by go_num, below_drewN hbr2.out _⟩
          case measure => simp [intOf]; omega
      · obtain rfl : k = len0 := by omega
        have hbr2 := Lib.hid hbr
        clear hbr
        go_wp2
        go_loopw [22] (fun i wr => ∃ j : Nat, j ≤ len2 ∧ i = .int .i64 j ∧ Below wg.heap.size wg wr) (fun i _ => len2 - (intOf i).toNat)
        case atStart => exact ⟨0, Nat.zero_le _, rfl, hbr2.out⟩
        case round =>
          clear hbr2
          obtain ⟨j, hj, rfl, hbr⟩ := hrel
          by_cases hlt : j < len2
          · try (exfalso; omega)
            all_goals
              have e1 := ck (HC2.out j hlt) hbr
              have e3 := ck (HC3.out (k + j) (by omega)) hbr
              have ex : (xs ++ ys).getD (k + j) 0 = ys.getD j 0 := by
                have hxk := HX.out
                simp only [List.getD]
                rw [List.getElem?_append_right (by omega), show k + j - xs.length = j by omega]
              rw [ex] at e3
              generalize ys.getD j 0 = x at e1 e3
              have i0 : (0 : Int) ≤ (j : Int) := Int.natCast_nonneg _
              have i1 : (j : Int) < (len2 : Int) := by omega
              have i2 : (0 : Int) ≤ (k : Int) + (j : Int) := by omega
              have i3 : (k : Int) + (j : Int) < (k : Int) + (len2 : Int) := by omega
              have hbr2 := Lib.hid hbr
              clear hbr ex
              go_wp2
              go_quiet (fail)
              go_wp2
              go_roundw
              case rel => exact ⟨j + 1, by omega, by go_num, below_drewN hbr2.out _⟩
              case measure => simp [intOf]; omega
          · obtain rfl : j = len2 := by omega
            have hfin := Lib.hid (HW.out.trans (hbr.mono HW.out.size))
            clear hbr
            go_wp2
            go_ret
            exact ⟨rfl, hfin.out⟩
end Go.Proofs.Ytbjlgcomimcjlaa
