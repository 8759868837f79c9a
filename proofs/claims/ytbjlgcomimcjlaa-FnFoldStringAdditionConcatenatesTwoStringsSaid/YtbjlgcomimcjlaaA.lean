/-
  The contracts of the helpers of FoldStringAddition over this seat's translation: copying a []uint16, building a string literal, joining two, reading one back.
-/
import Derived.Test.YtbjlgcomimcjlaaProg
import Derived.WalkKit
import Derived.WalkSpells
import Derived.BigQuiet
import Derived.Deep.QuietTactic
import Derived.Deep.Light
import Derived.Handy
import Derived.Lib.Hide
import Derived.WalkSmall
import Derived.Deep.RegionHeld3
import Derived.Laws.CopyOwn
import Derived.KernelRfl
namespace Go.Proofs.Ytbjlgcomimcjlaa
open Go.RowKit
theorem sz36 : (Try.prog.info? 36).map (·.size) = some 1 := by kernel_rfl
theorem info36 : (Try.prog.info? 36).map (fun i => (i.zero, i.size, i.bytes)) = some (some (.int .u16 0), 1, 2) := by kernel_rfl

/-- v is a slice of u16 numbers xs in world w. -/
def U16 (w : World) (v : Value) (xs : List Int) : Prop :=
  (v = .slice none 0 0 ∧ xs = []) ∨ ∃ b off cap, v = .slice (some ⟨b, off, none⟩) xs.length cap ∧ xs.length ≤ cap ∧ b < w.heap.size ∧
    ∀ i, i < xs.length → w.cell? ⟨b, off + i, none⟩ = some (.int .u16 (xs.getD i 0))

theorem U16.mono {w w' : World} {v : Value} {xs : List Int} (h : U16 w v xs) (hb : Below w.heap.size w w') : U16 w' v xs := by
  rcases h with h | ⟨b, off, cap, h1, h2, h3, h4⟩
  · exact .inl h
  · exact .inr ⟨b, off, cap, h1, h2, by have := hb.size; omega, fun i hi => (hb.cell (p := ⟨b, off + i, none⟩) h3).trans (h4 i hi)⟩

theorem ints_getD (zs : List Int) (k : IntKind) (i : Nat) (h : i < zs.length) : (zs.map (Value.int k))[i]? = some (.int k (zs.getD i 0)) := by
  simp [List.getD, h]

theorem U16.src {w : World} {a : Option Addr} {n c : Nat} {xs : List Int} (h : U16 w (.slice a n c) xs) : 0 < n → ∃ ad, a = some ad ∧ ∀ w', Below w.heap.size w w' → ∀ j v, (xs.map (Value.int .u16))[j]? = some v → w'.cell? (ad.add j) = some v := by
  intro hn
  rcases h with ⟨h1, h2⟩ | ⟨b, off, cap, h1, h2, h3, h4⟩
  · simp at h1; omega
  · simp only [Value.slice.injEq] at h1
    refine ⟨_, h1.1, fun w' hb j v hv => ?_⟩
    have hj : j < xs.length := by have := (List.getElem?_eq_some_iff.1 hv).1; simpa using this
    rw [ints_getD _ _ _ hj] at hv
    rw [Addr.add_lit, hb.cell (p := ⟨b, off + j, none⟩) h3, h4 j hj]
    exact hv

theorem U16.block {w : World} {g : Nat} {xs : List Int} (h : w.heap[g]? = some (.cells (xs.map (Value.int .u16)).toArray 36 (0, 0))) : U16 w (.slice (some ⟨g, 0, none⟩) xs.length xs.length) xs := by
  refine .inr ⟨g, 0, _, rfl, Nat.le_refl _, (Array.getElem?_eq_some_iff.1 h).1, fun i hi => ?_⟩
  rw [cell_of_row w g _ _ _ _ h, Nat.zero_add, List.getElem?_toArray, ints_getD _ _ _ hi]

theorem U16.own {w : World} {base : Nat} {g cap : Nat} {xs : List Int} (h : w.ownsRow base 36 1 (.slice (some ⟨g, 0, none⟩) xs.length cap) xs.length (xs.map (Value.int .u16))) :
    U16 w (.slice (some ⟨g, 0, none⟩) xs.length cap) xs := by
  rcases h.2 with ⟨h', _⟩ | ⟨g', cap', cur, h', hb, hg, hnc, hcm, hcs, htake⟩
  · simp at h'
  · have h'' := h'
    simp only [Value.slice.injEq, Option.some.injEq, Addr.mk.injEq, and_true, true_and] at h'
    obtain ⟨rfl, rfl⟩ := h'
    refine .inr ⟨g, 0, cap, rfl, hnc, (Array.getElem?_eq_some_iff.1 hg).1, fun i hi => ?_⟩
    rw [Nat.zero_add, h.cellAt i (by omega), ints_getD _ _ _ hi]

/-- after k rounds of a copying loop -/
def upto (xs : List Int) (k : Nat) : List Value := (xs.take k).map (Value.int .u16) ++ List.replicate (xs.length - k) (.int .u16 0)
theorem upto_zero (xs : List Int) : upto xs 0 = List.replicate xs.length (.int .u16 0) := by simp [upto]
theorem upto_all (xs : List Int) : upto xs xs.length = xs.map (Value.int .u16) := by simp [upto]
theorem upto_set (xs : List Int) (k : Nat) (h : k < xs.length) : (upto xs k).set k (.int .u16 (xs.getD k 0)) = upto xs (k + 1) := by
  unfold upto
  have e : xs.length - k = (xs.length - (k + 1)) + 1 := by omega
  rw [e, List.replicate_succ, List.set_append_right _ _ (by simp; omega)]
  simp only [List.length_map, List.length_take]
  rw [show k - min k xs.length = 0 by omega, List.set_cons_zero, List.take_succ_eq_append_getElem h, List.map_append, List.append_assoc]
  simp [List.getD, h]
theorem made_zero (n : Nat) : (madeCells #[Value.int .u16 0] n).toList = List.replicate n (.int .u16 0) := by
  apply List.ext_getElem
  · simp [madeCells]
  · intro i h1 h2
    simp [madeCells, Nat.mod_one]

set_option maxHeartbeats 400000 in
theorem clone_any (v : Value) (xs : List Int) (w : World) (h : U16 w v xs) (hl : xs.length ≤ 262144) :
    Calls Try.prog 5 #[v] w fun e w' => ∃ v', e = .returned v' ∧ U16 w' v' xs ∧ Below w.heap.size w w' := by
  rcases h with ⟨rfl, rfl⟩ | ⟨b, off, cap, rfl, hcap, hb, hcell⟩
  · have e0 := fun wx => Lib.run_eql_slice_nil (P := Try.prog) wx 22 36 none 0 0 0 0 Try.underlying22
    go_enter Try.func5, Try.ntmps5
    go_wp2
    go_ret
    exact ⟨_, rfl, .inl ⟨rfl, rfl⟩, Below.refl _ _⟩
  · have e0 := fun wx => Lib.run_eql_slice_nil (P := Try.prog) wx 22 36 (some ⟨b, off, none⟩) xs.length cap 0 0 Try.underlying22
    obtain ⟨i0, hi, hz0, hz1, hz2⟩ := info_parts info36
    go_enter Try.func5, Try.ntmps5
    go_wp2_with (at_make; refine wpList_make_full _ rfl _ _ 22 rfl w.heap.size 36 i0 (.int .u16 0) 1 Try.underlying22 hi hz0 hz1 _ _ _ _ xs.length rfl rfl rfl rfl ?b1 ?b2 ?b3 ?_)
    case b1 => rw [hz2]; omega
    case b2 => unfold maxLen; omega
    case b3 => omega
    intro w1 hown hgrow
    clear hi hz0 hz1 hz2
    rw [made_zero, ← upto_zero] at hown
    have hb1 : Below w.heap.size w w1 := (Below.refl _ _).grown hgrow (Nat.le_refl _) (by simp)
    clear hgrow e0
    go_wp2
    go_loopw [4] (fun i wr => ∃ k : Nat, k ≤ xs.length ∧ i = .int .i64 k ∧ wr.ownsRow w.heap.size 36 1 (.slice (some ⟨w.heap.size, 0, none⟩) xs.length xs.length) xs.length (upto xs k) ∧ Below w.heap.size w wr)
      (fun i _ => xs.length - (intOf i).toNat)
    case atStart => exact ⟨0, Nat.zero_le _, rfl, hown, hb1⟩
    case round =>
      obtain ⟨k, hk, rfl, hownr, hbr⟩ := hrel
      clear hown hb1
      by_cases hlt : k < xs.length
      · have hc0 : wr.cell? ⟨b, off + k, none⟩ = some (.int .u16 (xs.getD k 0)) := (hbr.cell (p := ⟨b, off + k, none⟩) hb).trans (hcell k hlt)
        have hc1 : ∃ u, wr.cell? ⟨w.heap.size, k, none⟩ = some u := by
          rw [hownr.cellAt k (by omega)]
          exact ⟨_, List.getElem?_eq_getElem (by rw [hownr.1]; omega)⟩
        obtain ⟨u, hc1⟩ := hc1
        have hf1 := hownr.frozenAt k
        have hst := hownr.stored k (.int .u16 (xs.getD k 0))
        rw [upto_set _ _ hlt] at hst
        generalize xs.getD k 0 = x at hc0 hst
        have hst1 := Lib.hid hst.1
        have hbs := Lib.hid (hbr.setCell (p := ⟨w.heap.size, k, none⟩) (Nat.le_refl _) (.int .u16 x))
        clear hst hownr hcell hbr
        go_wp2
        go_roundw
        case rel => exact ⟨k + 1, by omega, by go_num, hst1.out, hbs.out⟩
        case measure => simp [intOf]; omega
      · obtain rfl : k = xs.length := by omega
        rw [upto_all] at hownr
        go_wp2
        go_ret
        exact ⟨_, rfl, U16.own hownr, hbr⟩

theorem string_any (loc : Int) (a : Option Addr) (l c : Nat) (p : Bool) (w : World) :
    Calls Try.prog 6 #[.int .i32 loc, .slice a l c, .bool p] w fun e w' => e = .returned (.agg #[.iface 37 (.pointer (some ⟨w.heap.size + 1, 0, none⟩)), .int .i32 loc]) ∧ Below w.heap.size w w' ∧
     w'.heap.size = w.heap.size + 2 ∧ w'.cell? ⟨w.heap.size + 1, 0, none⟩ = some (.slice a l c) ∧ w'.cell? ⟨w.heap.size + 1, 2, none⟩ = some (.bool p) := by
  go_enter Try.func6, Try.ntmps6
  go_wp2
  go_returns
  exact ⟨rfl, ((Below.refl _ _).alloc (Nat.le_refl _) _).alloc (by simp) _, by simp, by simp [go_sem], by simp [go_sem]⟩

theorem row_full {w : World} {base e g n : Nat} {xs : List Value} (h : w.ownsRow base e 1 (.slice (some ⟨g, 0, none⟩) n n) n xs) : w.heap[g]? = some (.cells xs.toArray e (0, 0)) := by
  rcases h.2 with ⟨h', _⟩ | ⟨g', cap', cur, h', hb, hg, hnc, hcm, hcs, htake⟩
  · simp at h'
  · simp only [Value.slice.injEq, Option.some.injEq, Addr.mk.injEq, and_true, true_and] at h'
    obtain ⟨rfl, rfl⟩ := h'
    rw [hg, ← htake, List.take_of_length_le (by simp [hcs])]

set_option maxRecDepth 100000 in
theorem join_any (a : Option Addr) (c : Nat) (xs : List Int) (a2 : Option Addr) (c2 : Nat) (ys : List Int) (w : World) (h1 : U16 w (.slice a xs.length c) xs) (h2 : U16 w (.slice a2 ys.length c2) ys)
   (hl1 : xs.length ≤ 262144) (hl2 : ys.length ≤ 262144) :
    Calls Try.prog 12 #[.slice a xs.length c, .slice a2 ys.length c2] w fun e w' => e = .returned (.slice (some ⟨w.heap.size, 0, none⟩) (xs ++ ys).length (xs ++ ys).length) ∧
      U16 w' (.slice (some ⟨w.heap.size, 0, none⟩) (xs ++ ys).length (xs ++ ys).length) (xs ++ ys) ∧ Below w.heap.size w w' := by
  obtain ⟨i0, hi, hz0, hz1, hz2⟩ := info_parts info36
  go_enter Try.func12, Try.ntmps12
  go_wp2_with (at_make; refine wpList_make_full _ rfl _ _ 22 rfl w.heap.size 36 i0 (.int .u16 0) 1 Try.underlying22 hi hz0 hz1 _ _ _ _ (xs.length + ys.length) rfl rfl (Int.natCast_add _ _).symm (Int.natCast_add _ _).symm ?b1 ?b2 ?b3 ?_)
  case b1 => rw [hz2]; omega
  case b2 => unfold maxLen; omega
  case b3 => omega
  intro w1 hown hgrow
  clear hi hz0 hz1 hz2
  rw [made_zero] at hown
  have hg1 := row_full hown
  have hb1 : Below w.heap.size w w1 := (Below.refl _ _).grown hgrow (Nat.le_refl _) (by simp)
  have hsz : w.heap.size < w1.heap.size := (Array.getElem?_eq_some_iff.1 hg1).1
  clear hown hgrow
  have HG1 := Lib.hid hg1
  clear hg1
  obtain ⟨X, hX⟩ : ∃ X, X = xs.map (Value.int .u16) := ⟨_, rfl⟩
  obtain ⟨Y, hY⟩ : ∃ Y, Y = ys.map (Value.int .u16) := ⟨_, rfl⟩
  have hlX : X.length = xs.length := by rw [hX]; simp
  have hlY : Y.length = ys.length := by rw [hY]; simp
  have hX1 : ∀ v ∈ X, v.oneCell' = true := by rw [hX]; exact ints_oneCell _ _
  have hY1 : ∀ v ∈ Y, v.oneCell' = true := by rw [hY]; exact ints_oneCell _ _
  have HL := Lib.hid (And.intro hlX (And.intro hlY (And.intro hX1 (And.intro hY1 (And.intro hX hY)))))
  clear hlX hlY hX1 hY1 hX hY
  have hsrc1 := Lib.hid (h1.src)
  have hsrc2 := Lib.hid (h2.src)
  obtain ⟨B0, hB0⟩ : ∃ B0, B0 = w.heap.size := ⟨_, rfl⟩
  go_wp2_with (with_reducible show wpList _ _ _ (Oper.mk (some 17) _ _ _ _ _ :: _) _ _; go_loud (refine wpList_copy_splice (o := ⟨some 17, _, _, _, _, _⟩) rfl (.tmp 15) (.tmp 16) 22 22 rfl 36 Try.underlying22 sz36 (some ⟨w.heap.size, 0, none⟩) a xs.length (xs.length + ys.length) xs.length c rfl rfl w.heap.size 0 _ 36 HG1.out X ?hn ?hpos ?hfit ?h1 w.heap.size w hb1 (Nat.le_refl _) ?_))
  case hn => rw [HL.out.1]; simp
  case hpos =>
    intro h0
    rw [HL.out.1] at h0
    obtain ⟨ad, e, h3⟩ := hsrc1.out h0
    exact ⟨ad, e, by rw [HL.out.2.2.2.2.1]; exact h3 w1 hb1⟩
  case hfit => rw [HL.out.1]; simp
  case h1 => exact HL.out.2.2.1
  intro w2 HG2 hb2
  go_wp2_with (with_reducible show wpList _ _ _ (Oper.mk (some 23) _ _ _ _ _ :: _) _ _; go_loud (refine wpList_copy_splice (o := ⟨some 23, _, _, _, _, _⟩) rfl (.tmp 21) (.tmp 22) 22 22 rfl 36 Try.underlying22 sz36 (if ys = [] then some ⟨w.heap.size, 0, none⟩ else some ⟨w.heap.size, xs.length, none⟩) a2 ys.length ys.length ys.length c2 rfl rfl w.heap.size xs.length _ 36 HG2.out Y ?hn ?hpos ?hfit ?h1 w.heap.size w hb2 (Nat.le_refl _) ?_))
  case hn => rw [HL.out.2.1]; simp
  case hpos.inl h =>
    intro h0
    rw [HL.out.2.1, h] at h0
    simp at h0
  case hpos.inr h =>
    intro h0
    rw [HL.out.2.1] at h0
    obtain ⟨ad, e, h3⟩ := hsrc2.out h0
    exact ⟨ad, e, by rw [HL.out.2.2.2.2.2]; exact h3 w2 hb2⟩
  case hfit => simp only [HL.out.2.1]; rw [length_splice _ _ _ (by simp [HL.out.1])]; simp
  case h1 => exact HL.out.2.2.2.1
  all_goals
    intro w3 HG3 hb3
    go_wp2
    go_ret
    obtain ⟨e1, e2, _, _, e3, e4⟩ := HL.out
    have hg3 := HG3.out
  · have h : ys = [] := by assumption
    subst h
    have hsp : splice (splice (List.replicate xs.length (Value.int .u16 0)) 0 X) xs.length Y = xs.map (Value.int .u16) := by
      unfold splice
      simp [e3, e4]
    rw [hsp] at hg3
    have := U16.block (xs := xs) hg3
    exact ⟨by simp, by simpa using this, hb3⟩
  · have hsp : splice (splice (List.replicate (xs.length + ys.length) (Value.int .u16 0)) 0 X) xs.length Y = (xs ++ ys).map (Value.int .u16) := by
      unfold splice
      simp [e3, e4]
    rw [hsp] at hg3
    have := U16.block (xs := xs ++ ys) hg3
    exact ⟨by simp, this, hb3⟩

theorem ta54 (v : Value) (w : World) : (Instr.typeAssert (.iface 37 v) 26 54 true).run Try.prog w = .ok (.tuple #[.pointer none, .bool false]) w := by kernel_rfl
theorem ta57 (v : Value) (w : World) : (Instr.typeAssert (.iface 37 v) 26 57 true).run Try.prog w = .ok (.tuple #[.pointer none, .bool false]) w := by kernel_rfl
theorem ta66 (v : Value) (w : World) : (Instr.typeAssert (.iface 37 v) 26 66 true).run Try.prog w = .ok (.tuple #[.pointer none, .bool false]) w := by kernel_rfl
theorem ta62 (v : Value) (w : World) : (Instr.typeAssert (.iface 37 v) 26 62 true).run Try.prog w = .ok (.tuple #[.pointer none, .bool false]) w := by kernel_rfl
theorem ta63 (v : Value) (w : World) : (Instr.typeAssert (.iface 37 v) 26 63 true).run Try.prog w = .ok (.tuple #[.pointer none, .bool false]) w := by kernel_rfl
theorem ta70 (v : Value) (w : World) : (Instr.typeAssert (.iface 37 v) 26 70 true).run Try.prog w = .ok (.tuple #[.pointer none, .bool false]) w := by kernel_rfl
theorem ta73 (v : Value) (w : World) : (Instr.typeAssert (.iface 37 v) 26 73 true).run Try.prog w = .ok (.tuple #[.pointer none, .bool false]) w := by kernel_rfl
theorem ta76 (v : Value) (w : World) : (Instr.typeAssert (.iface 37 v) 26 76 true).run Try.prog w = .ok (.tuple #[.pointer none, .bool false]) w := by kernel_rfl
theorem ta81 (v : Value) (w : World) : (Instr.typeAssert (.iface 37 v) 26 81 true).run Try.prog w = .ok (.tuple #[.pointer none, .bool false]) w := by kernel_rfl
theorem ta83 (v : Value) (w : World) : (Instr.typeAssert (.iface 37 v) 26 83 true).run Try.prog w = .ok (.tuple #[.pointer none, .bool false]) w := by kernel_rfl
theorem ta41 (v : Value) (w : World) : (Instr.typeAssert (.iface 37 v) 26 41 true).run Try.prog w = .ok (.tuple #[.pointer none, .bool false]) w := by kernel_rfl
theorem ta37 (v : Value) (w : World) : (Instr.typeAssert (.iface 37 v) 26 37 true).run Try.prog w = .ok (.tuple #[v, .bool true]) w := by kernel_rfl
attribute [local go_sem] ta54 ta57 ta66 ta62 ta63 ta70 ta73 ta76 ta81 ta83 ta41 ta37
/-- the value v is an expression that holds a string literal -/
def strV (n : Nat) (loc : Int) : Value := .agg #[.iface 37 (.pointer (some ⟨n, 0, none⟩)), .int .i32 loc]

theorem pre_any (n : Nat) (loc : Int) (w : World) :
    Calls Try.prog 9 #[.agg #[.iface 37 (.pointer (some ⟨n, 0, none⟩)), .int .i32 loc]] w fun e w' => e = .returned (.agg #[.iface 37 (.pointer (some ⟨n, 0, none⟩)), .int .i32 loc]) ∧
      (w.alloc (.cells #[.iface 37 (.pointer (some ⟨n, 0, none⟩)), .int .i32 loc] 30)).alloc (.cells #[.iface 37 (.pointer (some ⟨n, 0, none⟩)), .int .i32 loc] 30) = w' := by
  go_enter Try.func9, Try.ntmps9
  go_wp2_with fail
  go_returns
  exact ⟨rfl, rfl⟩

theorem tostr_any (n : Nat) (w : World) :
    Calls Try.prog 10 #[.iface 37 (.pointer (some ⟨n, 0, none⟩))] w fun e w' => e = .returned (.tuple #[.string ByteArray.empty, .bool false]) ∧ w = w' := by
  go_enter Try.func10, Try.ntmps10
  go_wp2_with fail
  go_ret2
  exact ⟨rfl, rfl⟩

theorem asstr_any (n : Nat) (loc : Int) (a : Option Addr) (l c : Nat) (p : Bool) (w : World) (hn : n < w.heap.size) (h1 : w.cell? ⟨n, 0, none⟩ = some (.slice a l c)) (h2 : w.cell? ⟨n, 2, none⟩ = some (.bool p)) :
    Calls Try.prog 8 #[.agg #[.iface 37 (.pointer (some ⟨n, 0, none⟩)), .int .i32 loc]] w fun e w' => e = .returned (.tuple #[.slice a l c, .bool p, .bool true]) ∧ Below w.heap.size w w' := by
  go_enter Try.func8, Try.ntmps8
  go_wp2_with fail
  go_quiet (fail)
  go_wp2
  go_ret3
  exact ⟨rfl, below_drewN ((Below.refl _ _).alloc (Nat.le_refl _) _) _⟩

theorem U16.form {w : World} {v : Value} {xs : List Int} (h : U16 w v xs) : ∃ a c, v = .slice a xs.length c := by
  rcases h with ⟨h1, h2⟩ | ⟨b, off, cap, h1, h2, h3, h4⟩
  · subst h2; exact ⟨none, 0, h1⟩
  · exact ⟨_, _, h1⟩

theorem join_any2 (a : Option Addr) (c : Nat) (xs : List Int) (a2 : Option Addr) (c2 : Nat) (ys : List Int) (w : World) (h1 : U16 w (.slice a xs.length c) xs) (h2 : U16 w (.slice a2 ys.length c2) ys)
   (hl1 : xs.length ≤ 262144) (hl2 : ys.length ≤ 262144) (N : Nat) (hN : N = xs.length + ys.length) :
    Calls Try.prog 12 #[.slice a xs.length c, .slice a2 ys.length c2] w fun e w' => e = .returned (.slice (some ⟨w.heap.size, 0, none⟩) N N) ∧ U16 w' (.slice (some ⟨w.heap.size, 0, none⟩) N N) (xs ++ ys) ∧ Below w.heap.size w w' :=
  (join_any a c xs a2 c2 ys w h1 h2 hl1 hl2).mono fun e w' ⟨he, hu, hb⟩ => by
    subst hN
    simp only [List.length_append] at he hu
    exact ⟨he, hu, hb⟩

theorem ck {W W' : World} {p : Addr} {v : Value} (h : W.cell? p = some v) (hb : Below W.heap.size W W') : W'.cell? p = some v := (hb.cell (World.block_lt_of_cell? _ _ h)).trans h
theorem fk {W W' : World} {p : Addr} {v : Value} (h : W.cell? p = some v) (hf : W.frozen? p = false) (hb : Below W.heap.size W W') : W'.frozen? p = false := (hb.frozen (World.block_lt_of_cell? _ _ h)).trans hf
theorem ba (W : World) (o : Obj) : Below W.heap.size W (W.alloc o) := (Below.refl _ _).alloc (Nat.le_refl _) o
theorem lt_cell {W : World} {b o : Nat} {v : Value} (h : W.cell? ⟨b, o, none⟩ = some v) : b < W.heap.size := World.block_lt_of_cell? _ _ h

theorem ca {W : World} {p : Addr} {v : Value} {o : Obj} (h : W.cell? p = some v) : (W.alloc o).cell? p = some v := ck h (ba W o)
theorem cs {W : World} {p q : Addr} {v x : Value} (h : W.cell? p = some v) (hne : p.block ≠ q.block) : (W.setCell q x).cell? p = some v := (World.cell?_of_block (Below.heap_setCell _ _ _ _ hne)).trans h

theorem wp_any_world {P : Program} {c : Code} {Q : Exit → Act → World → Prop} {a : Act} {w : World} (S : World → Prop) (h : S w) (k : ∀ W, S W → c.wp P Q a W) : c.wp P Q a w := k w h

end Go.Proofs.Ytbjlgcomimcjlaa
