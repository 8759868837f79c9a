/-
  Folding two string literals gives one string literal that holds both texts, for every input of the law.
  Conditions: none beyond those that the given row itself prints.
-/
import Derived.Test.YtbjlgcomimcjlaaD
import Derived.Test.YtbjlgcomimcjlaaRows
import Derived.WalkKit
import Derived.ProofKit
import Derived.OpenShut
import Derived.ShutString
import Derived.ChangeOld
import Derived.Below
set_option linter.unusedSimpArgs false
set_option linter.unusedVariables false
namespace Go.Proofs.Ytbjlgcomimcjlaa
open Go.RowKit
set_option maxRecDepth 100000 in
set_option maxHeartbeats 1600000 in
theorem walk_t (a0 : Option Addr) (len0 cap0 : Nat) (z0 : List Int) (a2 : Option Addr) (len2 cap2 : Nat) (z2 : List Int) (a3 : Bool) (a4 : Int) (a5 : Int) (a6 : Int) (w : World) (w0 : InRow .u16 w a0 len0 cap0 z0) (w2 : InRow .u16 w a2 len2 cap2 z2)
    (h0 : len0 ≤ 262144) (h2 : len2 ≤ 262144) :
    Calls Try.prog 3 #[.slice a0 len0 cap0, .bool true, .slice a2 len2 cap2, .bool a3, .int .u8 a4, .int .i32 a5, .int .i32 a6] w fun e w' => e = .returned (.bool true) ∧ Below w.heap.size w w' := by
  have W0 := Lib.hid w0
  have W2 := Lib.hid w2
  clear w0 w2
  have ez : decide (len0 + len2 ≤ 1048576) = true := by simp; omega
  go_enter Try.func3, Try.ntmps3
  go_wp2_with fail
  refine (zz_bytes _ _ _ _ _ _ _ _ _ _ _ _ (by unfold maxLen; omega) (by unfold maxLen; omega)).mono ?_
  rintro e w' ⟨rfl, rfl⟩
  rw [ez]
  clear ez
  go_wp2_with fail
  refine (clone_row _ _ _ _ _ W0.out h0).mono ?_
  rintro e wa ⟨aa, kap0, xs, rfl, hx, hua, hba⟩
  have HX := Lib.hid hx
  have HUA := Lib.hid hua
  have HBA := Lib.hid hba
  clear hx hua hba
  go_wp2_with fail
  refine (clone_row _ _ _ _ _ (W2.out.mono HBA.out) h2).mono ?_
  rintro e wb ⟨ab, kap2, ys, rfl, hy, hub, hbb⟩
  have HY := Lib.hid hy
  have HUB := Lib.hid hub
  have HUA2 := Lib.hid (HUA.out.mono hbb)
  have HBB := Lib.hid (HBA.out.trans (hbb.mono HBA.out.size))
  clear hy hub hbb HUA HBA
  go_wp2_with fail
  refine (string_any _ _ _ _ _ _).mono ?_
  rintro e ws ⟨rfl, hbs, hzs, hs0, hs2⟩
  have HUA := Lib.hid (HUA2.out.mono hbs)
  have HUB2 := Lib.hid (HUB.out.mono hbs)
  have HBS := Lib.hid (HBB.out.trans (hbs.mono HBB.out.size))
  have HS0 := Lib.hid hs0
  have HS2 := Lib.hid hs2
  clear hbs hs0 hs2 HUA2 HUB HBB hzs
  go_wp2_with fail
  refine (string_any _ _ _ _ _ _).mono ?_
  rintro e wt ⟨rfl, hbt, hzt, ht0, ht2⟩
  have HUA2 := Lib.hid ((HUA.out.mono (ba _ _)).mono hbt)
  have HUB := Lib.hid ((HUB2.out.mono (ba _ _)).mono hbt)
  have HBT := Lib.hid ((HBS.out.trans ((ba _ _).mono HBS.out.size)).trans (hbt.mono (Nat.le_trans HBS.out.size (ba _ _).size)))
  have HS0' := Lib.hid (ck (ca HS0.out) hbt)
  have HS2' := Lib.hid (ck (ca HS2.out) hbt)
  have hx0 := ck (show (ws.alloc (.cells #[.iface 37 (.pointer (some ⟨wb.heap.size + 1, 0, none⟩)), .int .i32 a5] 30)).cell? ⟨ws.heap.size, 0, none⟩ = some (.iface 37 (.pointer (some ⟨wb.heap.size + 1, 0, none⟩))) from World.cell?_alloc_new ws _ _ 0) hbt
  have hx1 := ck (show (ws.alloc (.cells #[.iface 37 (.pointer (some ⟨wb.heap.size + 1, 0, none⟩)), .int .i32 a5] 30)).cell? ⟨ws.heap.size, 1, none⟩ = some (.int .i32 a5) from World.cell?_alloc_new ws _ _ 1) hbt
  have hlt := lt_cell hx0
  have HT0 := Lib.hid (show wt.cell? ⟨ws.heap.size + 1 + 1, 0, none⟩ = some (.slice ab len2 kap2) by simpa using ht0)
  have HT2 := Lib.hid (show wt.cell? ⟨ws.heap.size + 1 + 1, 2, none⟩ = some (.bool a3) by simpa using ht2)
  clear hbt ht0 ht2 HUA HUB2 HBS HS0 HS2 hzt
  go_wp2_with fail
  refine (fold_all _ _ _ _ _ _ _ xs _ _ ys _ _ _ _ _ HX.out HY.out (HUA2.out.mono (ba _ _)) (HUB.out.mono (ba _ _)) h0 h2 (ca HS0'.out) (ca HS2'.out) (ca HT0.out) (ca HT2.out)).mono ?_
  rintro e wf ⟨r, a9, c9, rfl, hbf, hrlt, hr0, hr2, hur⟩
  have HUF := Lib.hid hur
  have HAF := Lib.hid ((HUA2.out.mono (ba _ _)).mono hbf)
  have HBF := Lib.hid ((HUB.out.mono (ba _ _)).mono hbf)
  have HBW := Lib.hid ((HBT.out.trans ((ba _ _).mono HBT.out.size)).trans (hbf.mono (Nat.le_trans HBT.out.size (ba _ _).size)))
  clear hbf hur HUA2 HUB HBT hx0 hx1 hlt HS0' HS2' HT0 HT2
  go_wp2_with fail
  refine (asstr_any r _ _ _ _ _ _ (Nat.lt_of_lt_of_le hrlt (ba _ _).size) (ca hr0) (ca hr2)).mono ?_
  rintro e wg ⟨rfl, hbg⟩
  have hq := ck (show (wf.alloc (.cells #[.iface 37 (.pointer (some ⟨r, 0, none⟩)), .int .i32 a5] 30)).cell? ⟨wf.heap.size, 1, none⟩ = some (.int .i32 a5) from World.cell?_alloc_new wf _ _ 1) hbg
  have hlt := lt_cell hq
  have HU := Lib.hid ((HUF.out.mono (ba _ _)).mono hbg)
  have HA := Lib.hid ((HAF.out.mono (ba _ _)).mono hbg)
  have HB := Lib.hid ((HBF.out.mono (ba _ _)).mono hbg)
  have HW := Lib.hid ((HBW.out.trans ((ba _ _).mono HBW.out.size)).trans (hbg.mono (Nat.le_trans HBW.out.size (ba _ _).size)))
  clear hbg HUF HAF HBF HBW hrlt hr0 hr2
  go_wp2_with fail
  have hxy : (xs ++ ys).length = len0 + len2 := by rw [List.length_append, HX.out, HY.out]
  obtain ⟨b1, o1, hA, hc1⟩ := HA.out.cases HX.out
  obtain ⟨b2, o2, hB, hc2⟩ := HB.out.cases HY.out
  obtain ⟨b3, o3, hU, hc3⟩ := HU.out.cases hxy
  rcases hA with rfl | ⟨rfl, n1⟩ <;> rcases hB with rfl | ⟨rfl, n2⟩ <;> rcases hU with rfl | ⟨rfl, n3⟩
  all_goals
    have HC1 := Lib.hid hc1
    have HC2 := Lib.hid hc2
    have HC3 := Lib.hid hc3
    clear hc1 hc2 hc3 hxy HU HA HB hq hlt
    go_loopw [21] (fun i wr => ∃ k : Nat, k ≤ len0 ∧ i = .int .i64 k ∧ Below wg.heap.size wg wr) (fun i _ => len0 - (intOf i).toNat)
    case atStart => exact ⟨0, Nat.zero_le _, rfl, Below.refl _ _⟩
    case round =>
      obtain ⟨k, hk, rfl, hbr⟩ := hrel
      by_cases hlt : k < len0
      · try (exfalso; omega)
        all_goals
          have e1 := ck (HC1.out k hlt) hbr
          have e3 := ck (HC3.out k (by omega)) hbr
          have ex : (xs ++ ys).getD k 0 = xs.getD k 0 := by
            have := HX.out
            simp [List.getD, List.getElem?_append, this, hlt]
          rw [ex] at e3
          generalize xs.getD k 0 = x at e1 e3
          have i0 : (0 : Int) ≤ (k : Int) := Int.natCast_nonneg _
          have i1 : (k : Int) < (len0 : Int) := by omega
          have i3 : (k : Int) < (len0 : Int) + (len2 : Int) := by omega
          have hbr2 := Lib.hid hbr
          clear hbr ex
          go_wp2
          go_quiet (fail)
          go_wp2
          go_roundw
          case rel => exact ⟨k + 1, by omega, by go_num, below_drewN hbr2.out _⟩
          case measure => simp [intOf]; omega
      · obtain rfl : k = len0 := by omega
        have hbr2 := Lib.hid hbr
        clear hbr
        go_wp2
        go_loopw [22] (fun i wr => ∃ j : Nat, j ≤ len2 ∧ i = .int .i64 j ∧ Below wg.heap.size wg wr) (fun i _ => len2 - (intOf i).toNat)
        case atStart => exact ⟨0, Nat.zero_le _, rfl, hbr2.out⟩
        case round =>
          clear hbr2
          obtain ⟨j, hj, rfl, hbr⟩ := hrel
          by_cases hlt : j < len2
          · try (exfalso; omega)
            all_goals
              have e1 := ck (HC2.out j hlt) hbr
              have e3 := ck (HC3.out (k + j) (by omega)) hbr
              have ex : (xs ++ ys).getD (k + j) 0 = ys.getD j 0 := by
                have hxk := HX.out
                simp only [List.getD]
                rw [List.getElem?_append_right (by omega), show k + j - xs.length = j by omega]
              rw [ex] at e3
              generalize ys.getD j 0 = x at e1 e3
              have i0 : (0 : Int) ≤ (j : Int) := Int.natCast_nonneg _
              have i1 : (j : Int) < (len2 : Int) := by omega
              have i2 : (0 : Int) ≤ (k : Int) + (j : Int) := by omega
              have i3 : (k : Int) + (j : Int) < (k : Int) + (len2 : Int) := by omega
              have hbr2 := Lib.hid hbr
              clear hbr ex
              go_wp2
              go_quiet (fail)
              go_wp2
              go_roundw
              case rel => exact ⟨j + 1, by omega, by go_num, below_drewN hbr2.out _⟩
              case measure => simp [intOf]; omega
          · obtain rfl : j = len2 := by omega
            have hfin := Lib.hid (HW.out.trans (hbr.mono HW.out.size))
            clear hbr
            go_wp2
            go_ret
            exact ⟨rfl, hfin.out⟩

theorem row_len {k : IntKind} {w : World} {a : Option Addr} {len cap : Nat} {zs : List Int} (h : InRow k w a len cap zs) : len ≤ maxLen := by
  rcases h with ⟨_, h, _⟩ | ⟨x, _, h1, h2, _⟩
  · rw [h]; exact Nat.zero_le _
  · exact Nat.le_trans h1 h2

theorem walk_far (a0 : Option Addr) (len0 cap0 : Nat) (a1 : Bool) (a2 : Option Addr) (len2 cap2 : Nat) (a3 : Bool) (a4 : Int) (a5 : Int) (a6 : Int) (w : World) (m0 : len0 ≤ maxLen) (m2 : len2 ≤ maxLen)
    (h : 262144 < len0 ∨ 262144 < len2) :
    Calls Try.prog 3 #[.slice a0 len0 cap0, .bool a1, .slice a2 len2 cap2, .bool a3, .int .u8 a4, .int .i32 a5, .int .i32 a6] w fun e w' => e = .returned (.bool true) ∧ Below w.heap.size w w' := by
  by_cases hb : len0 + len2 ≤ 1048576
  · have ez : decide (len0 + len2 ≤ 1048576) = true := by simpa using hb
    by_cases h0 : 262144 < len0
    · go_enter Try.func3, Try.ntmps3
      go_wp2_with fail
      refine (zz_bytes _ _ _ _ _ _ _ _ _ _ _ _ m0 m2).mono ?_
      rintro e w' ⟨rfl, rfl⟩
      rw [ez]
      clear ez
      go_wp2_with fail
      go_ret
      exact ⟨rfl, Below.refl _ _⟩
    · have h2 : 262144 < len2 := by omega
      go_enter Try.func3, Try.ntmps3
      go_wp2_with fail
      refine (zz_bytes _ _ _ _ _ _ _ _ _ _ _ _ m0 m2).mono ?_
      rintro e w' ⟨rfl, rfl⟩
      rw [ez]
      clear ez
      go_wp2_with fail
      go_ret
      exact ⟨rfl, Below.refl _ _⟩
  · have ez : decide (len0 + len2 ≤ 1048576) = false := by simpa using hb
    go_enter Try.func3, Try.ntmps3
    go_wp2_with fail
    refine (zz_bytes _ _ _ _ _ _ _ _ _ _ _ _ m0 m2).mono ?_
    rintro e w' ⟨rfl, rfl⟩
    rw [ez]
    clear ez
    go_wp2_with fail
    go_ret
    exact ⟨rfl, Below.refl _ _⟩
end Go.Proofs.Ytbjlgcomimcjlaa

namespace Go.Proofs.Ytbjlgcomimcjlaa.fnFoldStringAdditionConcatenatesTwoStrings
open Go.ChangeShapes Go.WideShapes Go.ChangeAt Go.RowKit
open Go.ChangeMaps (open_string shut_string)
set_option linter.unusedVariables false

theorem own : ownKnob Try.prog.godebug = none := by kernel_rfl
theorem laidOut : laidOutB Try.prog = true := by kernel_rfl

/-! ### STEP 1: THE WALK: the Go text returns true, AND WRITES NOTHING THAT WAS THERE: 'Below w.heap.size w w'' (Derived/Below.lean: '.refl', '.alloc', '.drew', '.setCell' at a new block, '.trans'). Open each 'InRow' by 'rcases' AHEAD of 'go_enter'; part every test ahead of the walk. -/
theorem walk (a0 : Option Addr) (len0 cap0 : Nat) (z0 : List Int) (a1 : Bool) (a2 : Option Addr) (len2 cap2 : Nat) (z2 : List Int) (a3 : Bool) (a4 : Int) (a5 : Int) (a6 : Int) (w : World) (w0 : InRow .u16 w a0 len0 cap0 z0) (w2 : InRow .u16 w a2 len2 cap2 z2) (w4 : (Lit.int .u8 a4).wf = true) (w5 : (Lit.int .i32 a5).wf = true) (w6 : (Lit.int .i32 a6).wf = true) :
    Calls Try.prog 3 #[.slice a0 len0 cap0, .bool a1, .slice a2 len2 cap2, .bool a3, .int .u8 a4, .int .i32 a5, .int .i32 a6] w fun e w' => e = .returned (.bool true) ∧ Below w.heap.size w w' := by
  by_cases h0 : len0 ≤ 262144
  · by_cases h2 : len2 ≤ 262144
    · cases a1
      · exact walk_f a0 len0 cap0 z0 a2 len2 cap2 z2 a3 a4 a5 a6 w w0 w2 h0 h2
      · exact walk_t a0 len0 cap0 z0 a2 len2 cap2 z2 a3 a4 a5 a6 w w0 w2 h0 h2
    · exact walk_far a0 len0 cap0 a1 a2 len2 cap2 a3 a4 a5 a6 w (row_len w0) (row_len w2) (.inr (by omega))
  · exact walk_far a0 len0 cap0 a1 a2 len2 cap2 a3 a4 a5 a6 w (row_len w0) (row_len w2) (.inl (by omega))

/-! ### THE ROW's STEP: WRITTEN OUT: LEAVE IT -/
set_option maxRecDepth 100000 in
theorem lifted (os : Os) (started : os.Started) (H : Type) (enc : TypeId × Value → H) :
    ReturnsInHanded {} Try.checked os 3 .any (Rows.fnFoldStringAdditionConcatenatesTwoStringsSpec.pre6 enc Try.prog Try.f3 Rows.fnFoldStringAdditionConcatenatesTwoStringsRow.domain false) (Rows.fnFoldStringAdditionConcatenatesTwoStringsSpec.post enc Try.prog Try.f3 false true false false) := by
  refine returnsInHanded_of_change (C := Try.checked) own started (by kernel_rfl) Try.func3
    (ChangeSpec.witness6 (enc := enc) (C := Try.checked) false ⟨#[], #[.slice none 0 0, .bool false, .slice none 0 0, .bool false, .int .u8 0, .int .i32 0, .int .i32 0], []⟩ 8 (by kernel_rfl) (by kernel_rfl) (by kernel_rfl) (by kernel_rfl)) ?_
  intro W base args ds gs before hval0 hW hcnd _
  have hval : ∀ (j : Nat) t v, Try.f3.params[j]? = some t → args[j]? = some v → Value.okWide Try.prog W .any base t v := hval0
  have hW' := hW
  obtain ⟨p, q, hA0, hV, rfl, hfz, hnd⟩ := hW
  have hA : DataW.TrodAll enc Try.prog W 0 (fun _ => true) true Try.f3.params.toList args.toList ds p := hA0
  rw [Try.params3] at hA hval
  obtain ⟨v0, vs0, d0, ds0, p0, q0, hargs, rfl, rfl, h0, r0⟩ := trodAll_cons hA
  obtain ⟨v1, vs1, d1, ds1, p1, q1, rfl, rfl, rfl, h1, r1⟩ := trodAll_cons r0
  obtain ⟨v2, vs2, d2, ds2, p2, q2, rfl, rfl, rfl, h2, r2⟩ := trodAll_cons r1
  obtain ⟨v3, vs3, d3, ds3, p3, q3, rfl, rfl, rfl, h3, r3⟩ := trodAll_cons r2
  obtain ⟨v4, vs4, d4, ds4, p4, q4, rfl, rfl, rfl, h4, r4⟩ := trodAll_cons r3
  obtain ⟨v5, vs5, d5, ds5, p5, q5, rfl, rfl, rfl, h5, r5⟩ := trodAll_cons r4
  obtain ⟨v6, vs6, d6, ds6, p6, q6, rfl, rfl, rfl, h6, r6⟩ := trodAll_cons r5
  obtain ⟨rfl, rfl, rfl⟩ := trodAll_nil r6
  obtain rfl : args = #[v0, v1, v2, v3, v4, v5, v6] := by cases args; simp_all
  obtain ⟨rfl, rfl⟩ := trodVars_none hV
  obtain ⟨a0, len0, cap0, rfl⟩ := okWide_slice Try.underlying22 (hval 0 22 v0 rfl rfl)
  have k0 := h0
  have lt0 : ∀ x ∈ p0, x.block < W.heap.size := by obtain ⟨m, hm⟩ := k0; exact DataW.trod_lt m _ _ _ hm
  obtain ⟨z0, w0⟩ : ∃ zs, InRow .u16 W a0 len0 cap0 zs := by
    obtain ⟨fuel, hf⟩ := h0
    rcases open_ints Try.underlying22 Try.underlying36 (by kernel_rfl) hf with ⟨hcs, _⟩ | ⟨x, l, c, zs, hcs, _, hl, hm, hz, _, hcell, hwz⟩
    · simp [Value.cells] at hcs
      obtain ⟨rfl, rfl, rfl⟩ := hcs
      exact ⟨[], .inl ⟨rfl, rfl, rfl, rfl⟩⟩
    · simp [Value.cells] at hcs
      obtain ⟨rfl, rfl, rfl⟩ := hcs
      exact ⟨zs, .inr ⟨_, rfl, hl, hm, by simpa using hz, hcell, hwz⟩⟩
  obtain ⟨a1, rfl, rfl, rfl⟩ := open_bool Try.underlying4 (hval 1 4 v1 rfl rfl) h1
  obtain ⟨a2, len2, cap2, rfl⟩ := okWide_slice Try.underlying22 (hval 2 22 v2 rfl rfl)
  have k2 := h2
  have lt2 : ∀ x ∈ p2, x.block < W.heap.size := by obtain ⟨m, hm⟩ := k2; exact DataW.trod_lt m _ _ _ hm
  obtain ⟨z2, w2⟩ : ∃ zs, InRow .u16 W a2 len2 cap2 zs := by
    obtain ⟨fuel, hf⟩ := h2
    rcases open_ints Try.underlying22 Try.underlying36 (by kernel_rfl) hf with ⟨hcs, _⟩ | ⟨x, l, c, zs, hcs, _, hl, hm, hz, _, hcell, hwz⟩
    · simp [Value.cells] at hcs
      obtain ⟨rfl, rfl, rfl⟩ := hcs
      exact ⟨[], .inl ⟨rfl, rfl, rfl, rfl⟩⟩
    · simp [Value.cells] at hcs
      obtain ⟨rfl, rfl, rfl⟩ := hcs
      exact ⟨zs, .inr ⟨_, rfl, hl, hm, by simpa using hz, hcell, hwz⟩⟩
  obtain ⟨a3, rfl, rfl, rfl⟩ := open_bool Try.underlying4 (hval 3 4 v3 rfl rfl) h3
  obtain ⟨a4, rfl, rfl, rfl, w4⟩ := open_int Try.underlying5 (hval 4 5 v4 rfl rfl) h4
  obtain ⟨a5, rfl, rfl, rfl, w5⟩ := open_int Try.underlying21 (hval 5 21 v5 rfl rfl) h5
  obtain ⟨a6, rfl, rfl, rfl, w6⟩ := open_int Try.underlying21 (hval 6 21 v6 rfl rfl) h6
  clear hA0 hval0
  refine (walk a0 len0 cap0 z0 a1 a2 len2 cap2 z2 a3 a4 a5 a6 W w0 w2 w4 w5 w6).mono fun e W' ⟨he, bel⟩ => ?_
  subst he
  exact ⟨_, rfl, _, _, _, [], _, [], hW', trodAll_mk1 (shut_bool Try.underlying4 _), (trodAll_cons_mk (Below.trod laidOut (by kernel_rfl) (of_decide_eq_true (by kernel_rfl)) k0 bel lt0) (trodAll_cons_mk (shut_bool Try.underlying4 _) (trodAll_cons_mk (Below.trod laidOut (by kernel_rfl) (of_decide_eq_true (by kernel_rfl)) k2 bel lt2) (trodAll_cons_mk (shut_bool Try.underlying4 _) (trodAll_cons_mk (shut_int Try.underlying5 w4) (trodAll_cons_mk (shut_int Try.underlying21 w5) (trodAll_cons_mk (shut_int Try.underlying21 w6) trodAll_mk0))))))), rfl, bel.frame _, fun h => by cases h⟩

theorem over : Rows.fnFoldStringAdditionConcatenatesTwoStringsRow.holds Try.pinned (OpenSpec.ofChange Rows.fnFoldStringAdditionConcatenatesTwoStringsSpec) :=
  OpenClaim.holds_of_wide 3 Try.f3 rfl rfl rfl rfl rfl rfl rfl ⟨rfl, rfl, rfl, rfl, rfl⟩ rfl rfl rfl rfl rfl (by kernel_rfl) Try.func3 (by kernel_rfl)
    (of_decide_eq_true (by kernel_rfl)) (by unfold Func.isWrapper; first | (rw [if_pos (by decide +kernel)]; kernel_rfl) | (rw [if_neg (by decide +kernel)]; exact ⟨rfl, rfl⟩))
    (fun os started H enc _ => lifted os started H enc)

/-- ████ THE STATEMENT ████ -/
theorem proved : Rows.FnFoldStringAdditionConcatenatesTwoStringsSaid := over
#print axioms proved
end Go.Proofs.Ytbjlgcomimcjlaa.fnFoldStringAdditionConcatenatesTwoStrings
