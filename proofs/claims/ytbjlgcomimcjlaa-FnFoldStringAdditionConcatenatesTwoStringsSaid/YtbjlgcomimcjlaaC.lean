/-
  FoldStringAddition of two string literals over this seat's translation: the case that the left one already prefers a template.
-/
import Derived.Test.YtbjlgcomimcjlaaB
set_option linter.unusedSimpArgs false
namespace Go.Proofs.Ytbjlgcomimcjlaa
open Go.RowKit
attribute [local go_sem] ta37 ta41

set_option maxHeartbeats 1000000 in
set_option maxRecDepth 100000 in
theorem fold_t1 (n m : Nat) (la lb : Int) (a : Option Addr) (c : Nat) (xs : List Int) (a2 : Option Addr) (c2 : Nat) (ys : List Int) (q : Bool) (w : World)
    (hu1 : U16 w (.slice a xs.length c) xs) (hu2 : U16 w (.slice a2 ys.length c2) ys)
    (hl1 : xs.length ≤ 262144) (hl2 : ys.length ≤ 262144) (hn : n < w.heap.size) (hm : m < w.heap.size)
    (h1 : w.cell? ⟨n, 0, none⟩ = some (.slice a xs.length c)) (h2 : w.cell? ⟨n, 2, none⟩ = some (.bool true))
    (N : Nat) (hN : Hid (N = xs.length + ys.length)) (g1 : w.cell? ⟨m, 0, none⟩ = some (.slice a2 ys.length c2)) (g2 : w.cell? ⟨m, 2, none⟩ = some (.bool q)) :
    Calls Try.prog 7 #[.agg #[.iface 37 (.pointer (some ⟨n, 0, none⟩)), .int .i32 la], .agg #[.iface 37 (.pointer (some ⟨m, 0, none⟩)), .int .i32 lb], .int .u8 1] w
      (FoldPost w la N (xs ++ ys) true) := by
  have b1 := Lib.hid hu1
  have b2 := Lib.hid hu2
  clear hu1 hu2
  go_enter Try.func7, Try.ntmps7
  go_wp2_with (first | (go_at_call 9; refine (pre_any _ _ _).mono ?_; rintro e w' ⟨rfl, rfl⟩) | (go_at_call 10; refine (tostr_any _ _).mono ?_; rintro e w' ⟨rfl, rfl⟩))
  refine wp_any_world (fun W => W.cell? ⟨w.heap.size, 1, none⟩ = some (.int .i32 la) ∧ W.cell? ⟨n, 0, none⟩ = some (.slice a xs.length c) ∧ W.cell? ⟨n, 2, none⟩ = some (.bool true) ∧
     W.cell? ⟨m, 0, none⟩ = some (.slice a2 ys.length c2) ∧ W.cell? ⟨m, 2, none⟩ = some (.bool q) ∧ W.cell? ⟨w.heap.size + 2, 0, none⟩ = some .nilIface ∧ W.cell? ⟨w.heap.size + 2, 1, none⟩ = some (.int .i32 0) ∧
     W.frozen? ⟨w.heap.size + 2, 0, none⟩ = false ∧ W.frozen? ⟨w.heap.size + 2, 1, none⟩ = false ∧ w.heap.size + 7 = W.heap.size ∧ Below w.heap.size w W) ?_ ?_
  · refine ⟨?_, ?_, ?_, ?_, ?_, ?_, ?_, ?_, ?_, ?_, ?_⟩
    all_goals first | (simp [go_sem]; done) | exact ca (ca (ca (ca (ca (ca (ca h1)))))) | exact ca (ca (ca (ca (ca (ca (ca h2)))))) | exact ca (ca (ca (ca (ca (ca (ca g1)))))) | exact ca (ca (ca (ca (ca (ca (ca g2)))))) | (go_grown; done)
  · rintro W ⟨q1, q2, q3, q4, q5, q6, q7, q8, q9, q10, q11⟩
    have hsz : w.heap.size < W.heap.size := by omega
    have hsz2 : w.heap.size + 2 < W.heap.size := by omega
    have hnW : n < W.heap.size := by omega
    have hmW : m < W.heap.size := by omega
    have b1' := Lib.hid ((b1.out.mono q11).mono (Below.refl _ _).drew)
    have b2' := Lib.hid ((b2.out.mono q11).mono (Below.refl _ _).drew)
    have d1 := Lib.hid (show w.heap.size ≠ w.heap.size + 1 + 1 by omega)
    have d2 := Lib.hid (show n ≠ w.heap.size + 1 + 1 by omega)
    have d3 := Lib.hid (show m ≠ w.heap.size + 1 + 1 by omega)
    clear h1 h2 g1 g2
    refine wp_region_held_drew (S := (fun w' => w'.cell? ⟨w.heap.size, 1, none⟩ = some (.int .i32 la) ∧ w'.cell? ⟨n, 0, none⟩ = some (.slice a xs.length c) ∧ w'.cell? ⟨n, 2, none⟩ = some (.bool true) ∧ w'.cell? ⟨m, 0, none⟩ = some (.slice a2 ys.length c2) ∧ w'.cell? ⟨m, 2, none⟩ = some (.bool q))) (by kernel_rfl) ⟨q1, q2, q3, q4, q5⟩ (fun hHeld => ?_)
    refine wpAnyH_take (i := 0) (v := ?_) rfl (by kernel_rfl) (by kernel_rfl) (by kernel_rfl) (fun _ _ _ h => h) (Or.inl ⟨by rfl, ?_⟩) (by assumption) ?_
    rotate_left
    · intro w hSw
      try dsimp only at hSw
      go_simp
      try with_reducible rfl
    try simp only [Act.put, List.setIfInBounds_toArray, List.set_cons_zero, List.set_cons_succ]
    refine wpAnyH_take (i := 1) (v := ?_) rfl (by kernel_rfl) (by kernel_rfl) (by kernel_rfl) (fun _ _ _ h => h) (Or.inl ⟨by rfl, ?_⟩) (by assumption) ?_
    rotate_left
    · intro w hSw
      try dsimp only at hSw
      go_simp
      try with_reducible rfl
    try simp only [Act.put, List.setIfInBounds_toArray, List.set_cons_zero, List.set_cons_succ]
    refine wpAnyH_take (i := 2) (v := ?_) rfl (by kernel_rfl) (by kernel_rfl) (by kernel_rfl) (fun _ _ _ h => h) (Or.inl ⟨by rfl, ?_⟩) (by assumption) ?_
    rotate_left
    · intro w hSw
      try dsimp only at hSw
      go_simp
      try with_reducible rfl
    try simp only [Act.put, List.setIfInBounds_toArray, List.set_cons_zero, List.set_cons_succ]
    refine wpAnyH_take (i := 3) (v := ?_) rfl (by kernel_rfl) (by kernel_rfl) (by kernel_rfl) (fun _ _ _ h => h) (Or.inl ⟨by rfl, ?_⟩) (by assumption) ?_
    rotate_left
    · intro w hSw
      try dsimp only at hSw
      go_simp
      try with_reducible rfl
    try simp only [Act.put, List.setIfInBounds_toArray, List.set_cons_zero, List.set_cons_succ]
    refine wpAnyH_take (i := 4) (v := ?_) rfl (by kernel_rfl) (by kernel_rfl) (by kernel_rfl) (fun _ _ _ h => h) (Or.inl ⟨by rfl, ?_⟩) (by assumption) ?_
    rotate_left
    · intro w hSw
      try dsimp only at hSw
      go_simp
      try with_reducible rfl
    try simp only [Act.put, List.setIfInBounds_toArray, List.set_cons_zero, List.set_cons_succ]
    refine wpAnyH_take (i := 5) (v := ?_) rfl (by kernel_rfl) (by kernel_rfl) (by kernel_rfl) (fun _ _ _ h => h) (Or.inl ⟨by rfl, ?_⟩) (by assumption) ?_
    rotate_left
    · intro w hSw
      try dsimp only at hSw
      go_simp
      try with_reducible rfl
    try simp only [Act.put, List.setIfInBounds_toArray, List.set_cons_zero, List.set_cons_succ]
    refine wpAnyH_take (i := 6) (v := ?_) rfl (by kernel_rfl) (by kernel_rfl) (by kernel_rfl) (fun _ _ _ h => h) (Or.inl ⟨by rfl, ?_⟩) (by assumption) ?_
    rotate_left
    · intro w hSw
      try dsimp only at hSw
      go_simp
      try with_reducible rfl
    try simp only [Act.put, List.setIfInBounds_toArray, List.set_cons_zero, List.set_cons_succ]
    refine wpAnyH_take (i := 7) (v := ?_) rfl (by kernel_rfl) (by kernel_rfl) (by kernel_rfl) (fun _ _ _ h => h) (Or.inl ⟨by rfl, ?_⟩) (by assumption) ?_
    rotate_left
    · intro w hSw
      try dsimp only at hSw
      go_simp
      try with_reducible rfl
    try simp only [Act.put, List.setIfInBounds_toArray, List.set_cons_zero, List.set_cons_succ]
    refine wpAnyH_take (i := 8) (v := ?_) rfl (by kernel_rfl) (by kernel_rfl) (by kernel_rfl) (fun _ _ _ h => h) (Or.inl ⟨by rfl, ?_⟩) (by assumption) ?_
    rotate_left
    · intro w hSw
      try dsimp only at hSw
      go_simp
      try with_reducible rfl
    try simp only [Act.put, List.setIfInBounds_toArray, List.set_cons_zero, List.set_cons_succ]
    refine wpAnyH_take (i := 9) (v := ?_) rfl (by kernel_rfl) (by kernel_rfl) (by kernel_rfl) (fun _ _ _ h => h) (Or.inl ⟨by rfl, ?_⟩) (by assumption) ?_
    rotate_left
    · intro w hSw
      try dsimp only at hSw
      go_simp
      try with_reducible rfl
    try simp only [Act.put, List.setIfInBounds_toArray, List.set_cons_zero, List.set_cons_succ]
    refine wpAnyH_take (i := 11) (v := ?_) rfl (by kernel_rfl) (by kernel_rfl) (by kernel_rfl) (fun _ _ _ h => h) (Or.inl ⟨by rfl, ?_⟩) (by assumption) ?_
    rotate_left
    · intro w hSw
      try dsimp only at hSw
      go_simp
      try with_reducible rfl
    try simp only [Act.put, List.setIfInBounds_toArray, List.set_cons_zero, List.set_cons_succ]
    refine wpAnyH_take (i := 12) (v := ?_) rfl (by kernel_rfl) (by kernel_rfl) (by kernel_rfl) (fun _ _ _ h => h) (Or.inl ⟨by rfl, ?_⟩) (by assumption) ?_
    rotate_left
    · intro w hSw
      try dsimp only at hSw
      go_simp
      try with_reducible rfl
    try simp only [Act.put, List.setIfInBounds_toArray, List.set_cons_zero, List.set_cons_succ]
    refine wpAnyH_take (i := 13) (v := ?_) rfl (by kernel_rfl) (by kernel_rfl) (by kernel_rfl) (fun _ _ _ h => h) (Or.inl ⟨by rfl, ?_⟩) (by assumption) ?_
    rotate_left
    · intro w hSw
      try dsimp only at hSw
      go_simp
      try with_reducible rfl
    try simp only [Act.put, List.setIfInBounds_toArray, List.set_cons_zero, List.set_cons_succ]
    refine wpAnyH_take (i := 14) (v := ?_) rfl (by kernel_rfl) (by kernel_rfl) (by kernel_rfl) (fun _ _ _ h => h) (Or.inl ⟨by rfl, ?_⟩) (by assumption) ?_
    rotate_left
    · intro w hSw
      try dsimp only at hSw
      go_simp
      try with_reducible rfl
    try simp only [Act.put, List.setIfInBounds_toArray, List.set_cons_zero, List.set_cons_succ]
    refine wpAnyH_ready (rs := [10]) (by kernel_rfl) (by simp) ?_
    refine AllReadyH.cons rfl (fun K hK => ?_) AllReadyH.nil
    go_simp
    go_at_call 12; refine (join_any2 a c xs a2 c2 ys _ (b1'.out) (b2'.out) hl1 hl2 N hN.out).mono ?_; rintro e wj ⟨rfl, huj, hbj⟩; have k6 := ck (W := W.drew) q6 hbj; have k7 := ck (W := W.drew) q7 hbj; have k8 := fk (W := W.drew) q6 q8 hbj; have k9 := fk (W := W.drew) q7 q9 hbj; have hszj := lt_cell k6
    refine hK.out _ _ ⟨ck (W := W.drew) q1 hbj, ck (W := W.drew) q2 hbj, ck (W := W.drew) q3 hbj, ck (W := W.drew) q4 hbj, ck (W := W.drew) q5 hbj⟩ (fun hHeld => ?_)
    clear hK K
    try simp only [Act.put, List.setIfInBounds_toArray, List.set_cons_zero, List.set_cons_succ]
    refine wpAnyH_take (i := 15) (v := ?_) rfl (by kernel_rfl) (by kernel_rfl) (by kernel_rfl) (fun _ _ _ h => h) (Or.inl ⟨by rfl, ?_⟩) (by assumption) ?_
    rotate_left
    · intro w hSw
      try dsimp only at hSw
      go_simp
      try with_reducible rfl
    try simp only [Act.put, List.setIfInBounds_toArray, List.set_cons_zero, List.set_cons_succ]
    refine wpAnyH_take (i := 16) (v := undef) rfl (by kernel_rfl) (by kernel_rfl) (by kernel_rfl) (fun _ _ _ h => h) (Or.inr ⟨by rfl, rfl⟩) (by assumption) ?_
    try simp only [Act.put, List.setIfInBounds_toArray, List.set_cons_zero, List.set_cons_succ]
    refine wpAnyH_take (i := 17) (v := undef) rfl (by kernel_rfl) (by kernel_rfl) (by kernel_rfl) (fun _ _ _ h => h) (Or.inr ⟨by rfl, rfl⟩) (by assumption) ?_
    try simp only [Act.put, List.setIfInBounds_toArray, List.set_cons_zero, List.set_cons_succ]
    refine wpAnyH_take (i := 18) (v := undef) rfl (by kernel_rfl) (by kernel_rfl) (by kernel_rfl) (fun _ _ _ h => h) (Or.inr ⟨by rfl, rfl⟩) (by assumption) ?_
    try simp only [Act.put, List.setIfInBounds_toArray, List.set_cons_zero, List.set_cons_succ]
    refine wpAnyH_take (i := 19) (v := undef) rfl (by kernel_rfl) (by kernel_rfl) (by kernel_rfl) (fun _ _ _ h => h) (Or.inr ⟨by rfl, rfl⟩) (by assumption) ?_
    try simp only [Act.put, List.setIfInBounds_toArray, List.set_cons_zero, List.set_cons_succ]
    refine wpAnyH_take (i := 20) (v := ?_) rfl (by kernel_rfl) (by kernel_rfl) (by kernel_rfl) (fun _ _ _ h => h) (Or.inl ⟨by rfl, ?_⟩) (by assumption) ?_
    rotate_left
    · intro w hSw
      try dsimp only at hSw
      go_simp
      try with_reducible rfl
    try simp only [Act.put, List.setIfInBounds_toArray, List.set_cons_zero, List.set_cons_succ]
    refine wpAnyH_take (i := 21) (v := ?_) rfl (by kernel_rfl) (by kernel_rfl) (by kernel_rfl) (fun _ _ _ h => h) (Or.inl ⟨by rfl, ?_⟩) (by assumption) ?_
    rotate_left
    · intro w hSw
      try dsimp only at hSw
      go_simp
      try with_reducible rfl
    try simp only [Act.put, List.setIfInBounds_toArray, List.set_cons_zero, List.set_cons_succ]
    refine wpAnyH_ready (rs := [22]) (by kernel_rfl) (by simp) ?_
    refine AllReadyH.cons rfl (fun K hK => ?_) AllReadyH.nil
    go_simp
    refine hK.out _ _ ⟨ca (ck (W := W.drew) q1 hbj), ca (ck (W := W.drew) q2 hbj), ca (ck (W := W.drew) q3 hbj), ca (ck (W := W.drew) q4 hbj), ca (ck (W := W.drew) q5 hbj)⟩ (fun hHeld => ?_)
    clear hK K
    try simp only [Act.put, List.setIfInBounds_toArray, List.set_cons_zero, List.set_cons_succ]
    refine wpAnyH_take (i := 23) (v := ?_) rfl (by kernel_rfl) (by kernel_rfl) (by kernel_rfl) (fun _ _ _ h => h) (Or.inl ⟨by rfl, ?_⟩) (by assumption) ?_
    rotate_left
    · intro w hSw
      try dsimp only at hSw
      go_simp
      try with_reducible rfl
    try simp only [Act.put, List.setIfInBounds_toArray, List.set_cons_zero, List.set_cons_succ]
    refine wpAnyH_take (i := 24) (v := ?_) rfl (by kernel_rfl) (by kernel_rfl) (by kernel_rfl) (fun _ _ _ h => h) (Or.inl ⟨by rfl, ?_⟩) (by assumption) ?_
    rotate_left
    · intro w hSw
      try dsimp only at hSw
      go_simp
      try with_reducible rfl
    try simp only [Act.put, List.setIfInBounds_toArray, List.set_cons_zero, List.set_cons_succ]
    refine wpAnyH_ready (rs := [25]) (by kernel_rfl) (by simp) ?_
    refine AllReadyH.cons rfl (fun K hK => ?_) AllReadyH.nil
    go_simp
    refine hK.out _ _ ⟨ca (cs (cs (ck (W := W.drew) q1 hbj) d1.out) d1.out), ca (cs (cs (ck (W := W.drew) q2 hbj) d2.out) d2.out), ca (cs (cs (ck (W := W.drew) q3 hbj) d2.out) d2.out), ca (cs (cs (ck (W := W.drew) q4 hbj) d3.out) d3.out), ca (cs (cs (ck (W := W.drew) q5 hbj) d3.out) d3.out)⟩ (fun hHeld => ?_)
    clear hK K
    try simp only [Act.put, List.setIfInBounds_toArray, List.set_cons_zero, List.set_cons_succ]
    refine wpAnyH_done (by kernel_rfl) ?_ _
    have hU := Lib.hid huj
    have hB := Lib.hid (q11.trans ((Below.refl _ _).drew.trans (hbj.mono (by show _ ≤ W.heap.size; omega))))
    clear huj hbj
    have hz := two_cells (g := w.heap.size + 1 + 1) (x := .iface 37 (.pointer (some ⟨wj.heap.size, 0, none⟩))) (y := .int .i32 la) (O := .cells #[.slice (some ⟨W.heap.size, 0, none⟩) N N, .int .i32 0, .bool true, .bool false, .bool false] 39) k6 k7
    obtain ⟨z0, z1⟩ := hz
    have Z0 := Lib.hid z0
    have Z1 := Lib.hid z1
    clear z0 z1
    go_wp2
    have z0 := Z0.out
    have z1 := Z1.out
    refine bodyPost_ret (v := .agg #[.iface 37 (.pointer (some ⟨wj.heap.size, 0, none⟩)), .int .i32 la]) (by simp [results, Try.results7, go_sem, z0, z1]) rfl ?_
    exact foldPost rfl hB.out hU.out (by intro b off cap h; simp at h; omega) (Nat.le_add_right _ 2)

set_option maxHeartbeats 1000000 in
set_option maxRecDepth 100000 in
theorem fold_tk (n m : Nat) (la lb : Int) (k : Int) (pk : (k == 1) = false) (a : Option Addr) (c : Nat) (xs : List Int) (a2 : Option Addr) (c2 : Nat) (ys : List Int) (q : Bool) (w : World)
    (hu1 : U16 w (.slice a xs.length c) xs) (hu2 : U16 w (.slice a2 ys.length c2) ys)
    (hl1 : xs.length ≤ 262144) (hl2 : ys.length ≤ 262144) (hn : n < w.heap.size) (hm : m < w.heap.size)
    (h1 : w.cell? ⟨n, 0, none⟩ = some (.slice a xs.length c)) (h2 : w.cell? ⟨n, 2, none⟩ = some (.bool true))
    (N : Nat) (hN : Hid (N = xs.length + ys.length)) (g1 : w.cell? ⟨m, 0, none⟩ = some (.slice a2 ys.length c2)) (g2 : w.cell? ⟨m, 2, none⟩ = some (.bool q)) :
    Calls Try.prog 7 #[.agg #[.iface 37 (.pointer (some ⟨n, 0, none⟩)), .int .i32 la], .agg #[.iface 37 (.pointer (some ⟨m, 0, none⟩)), .int .i32 lb], .int .u8 k] w
      (FoldPost w la N (xs ++ ys) true) := by
  have b1 := Lib.hid hu1
  have b2 := Lib.hid hu2
  clear hu1 hu2
  go_enter Try.func7, Try.ntmps7
  go_wp2_with (first | (go_at_call 9; refine (pre_any _ _ _).mono ?_; rintro e w' ⟨rfl, rfl⟩) | (go_at_call 10; refine (tostr_any _ _).mono ?_; rintro e w' ⟨rfl, rfl⟩))
  refine wp_any_world (fun W => W.cell? ⟨w.heap.size, 1, none⟩ = some (.int .i32 la) ∧ W.cell? ⟨n, 0, none⟩ = some (.slice a xs.length c) ∧ W.cell? ⟨n, 2, none⟩ = some (.bool true) ∧
     W.cell? ⟨m, 0, none⟩ = some (.slice a2 ys.length c2) ∧ W.cell? ⟨m, 2, none⟩ = some (.bool q) ∧ W.cell? ⟨w.heap.size + 2, 0, none⟩ = some .nilIface ∧ W.cell? ⟨w.heap.size + 2, 1, none⟩ = some (.int .i32 0) ∧
     W.frozen? ⟨w.heap.size + 2, 0, none⟩ = false ∧ W.frozen? ⟨w.heap.size + 2, 1, none⟩ = false ∧ w.heap.size + 7 = W.heap.size ∧ Below w.heap.size w W) ?_ ?_
  · refine ⟨?_, ?_, ?_, ?_, ?_, ?_, ?_, ?_, ?_, ?_, ?_⟩
    all_goals first | (simp [go_sem]; done) | exact ca (ca (ca (ca (ca (ca (ca h1)))))) | exact ca (ca (ca (ca (ca (ca (ca h2)))))) | exact ca (ca (ca (ca (ca (ca (ca g1)))))) | exact ca (ca (ca (ca (ca (ca (ca g2)))))) | (go_grown; done)
  · rintro W ⟨q1, q2, q3, q4, q5, q6, q7, q8, q9, q10, q11⟩
    have hsz : w.heap.size < W.heap.size := by omega
    have hsz2 : w.heap.size + 2 < W.heap.size := by omega
    have hnW : n < W.heap.size := by omega
    have hmW : m < W.heap.size := by omega
    have b1' := Lib.hid ((b1.out.mono q11).mono (Below.refl _ _).drew)
    have b2' := Lib.hid ((b2.out.mono q11).mono (Below.refl _ _).drew)
    have d1 := Lib.hid (show w.heap.size ≠ w.heap.size + 1 + 1 by omega)
    have d2 := Lib.hid (show n ≠ w.heap.size + 1 + 1 by omega)
    have d3 := Lib.hid (show m ≠ w.heap.size + 1 + 1 by omega)
    clear h1 h2 g1 g2
    refine wp_region_held_drew (S := (fun w' => w'.cell? ⟨w.heap.size, 1, none⟩ = some (.int .i32 la) ∧ w'.cell? ⟨n, 0, none⟩ = some (.slice a xs.length c) ∧ w'.cell? ⟨n, 2, none⟩ = some (.bool true) ∧ w'.cell? ⟨m, 0, none⟩ = some (.slice a2 ys.length c2) ∧ w'.cell? ⟨m, 2, none⟩ = some (.bool q))) (by kernel_rfl) ⟨q1, q2, q3, q4, q5⟩ (fun hHeld => ?_)
    refine wpAnyH_take (i := 0) (v := ?_) rfl (by kernel_rfl) (by kernel_rfl) (by kernel_rfl) (fun _ _ _ h => h) (Or.inl ⟨by rfl, ?_⟩) (by assumption) ?_
    rotate_left
    · intro w hSw
      try dsimp only at hSw
      go_simp
      try with_reducible rfl
    try simp only [Act.put, List.setIfInBounds_toArray, List.set_cons_zero, List.set_cons_succ]
    refine wpAnyH_take (i := 1) (v := ?_) rfl (by kernel_rfl) (by kernel_rfl) (by kernel_rfl) (fun _ _ _ h => h) (Or.inl ⟨by rfl, ?_⟩) (by assumption) ?_
    rotate_left
    · intro w hSw
      try dsimp only at hSw
      go_simp
      try with_reducible rfl
    try simp only [Act.put, List.setIfInBounds_toArray, List.set_cons_zero, List.set_cons_succ]
    refine wpAnyH_take (i := 2) (v := ?_) rfl (by kernel_rfl) (by kernel_rfl) (by kernel_rfl) (fun _ _ _ h => h) (Or.inl ⟨by rfl, ?_⟩) (by assumption) ?_
    rotate_left
    · intro w hSw
      try dsimp only at hSw
      go_simp
      try with_reducible rfl
    try simp only [Act.put, List.setIfInBounds_toArray, List.set_cons_zero, List.set_cons_succ]
    refine wpAnyH_take (i := 3) (v := ?_) rfl (by kernel_rfl) (by kernel_rfl) (by kernel_rfl) (fun _ _ _ h => h) (Or.inl ⟨by rfl, ?_⟩) (by assumption) ?_
    rotate_left
    · intro w hSw
      try dsimp only at hSw
      go_simp
      try with_reducible rfl
    try simp only [Act.put, List.setIfInBounds_toArray, List.set_cons_zero, List.set_cons_succ]
    refine wpAnyH_take (i := 4) (v := ?_) rfl (by kernel_rfl) (by kernel_rfl) (by kernel_rfl) (fun _ _ _ h => h) (Or.inl ⟨by rfl, ?_⟩) (by assumption) ?_
    rotate_left
    · intro w hSw
      try dsimp only at hSw
      go_simp
      try with_reducible rfl
    try simp only [Act.put, List.setIfInBounds_toArray, List.set_cons_zero, List.set_cons_succ]
    refine wpAnyH_take (i := 5) (v := ?_) rfl (by kernel_rfl) (by kernel_rfl) (by kernel_rfl) (fun _ _ _ h => h) (Or.inl ⟨by rfl, ?_⟩) (by assumption) ?_
    rotate_left
    · intro w hSw
      try dsimp only at hSw
      go_simp
      try with_reducible rfl
    try simp only [Act.put, List.setIfInBounds_toArray, List.set_cons_zero, List.set_cons_succ]
    refine wpAnyH_take (i := 6) (v := ?_) rfl (by kernel_rfl) (by kernel_rfl) (by kernel_rfl) (fun _ _ _ h => h) (Or.inl ⟨by rfl, ?_⟩) (by assumption) ?_
    rotate_left
    · intro w hSw
      try dsimp only at hSw
      go_simp
      try with_reducible rfl
    try simp only [Act.put, List.setIfInBounds_toArray, List.set_cons_zero, List.set_cons_succ]
    refine wpAnyH_take (i := 7) (v := ?_) rfl (by kernel_rfl) (by kernel_rfl) (by kernel_rfl) (fun _ _ _ h => h) (Or.inl ⟨by rfl, ?_⟩) (by assumption) ?_
    rotate_left
    · intro w hSw
      try dsimp only at hSw
      go_simp
      try with_reducible rfl
    try simp only [Act.put, List.setIfInBounds_toArray, List.set_cons_zero, List.set_cons_succ]
    refine wpAnyH_take (i := 8) (v := ?_) rfl (by kernel_rfl) (by kernel_rfl) (by kernel_rfl) (fun _ _ _ h => h) (Or.inl ⟨by rfl, ?_⟩) (by assumption) ?_
    rotate_left
    · intro w hSw
      try dsimp only at hSw
      go_simp
      try with_reducible rfl
    try simp only [Act.put, List.setIfInBounds_toArray, List.set_cons_zero, List.set_cons_succ]
    refine wpAnyH_take (i := 9) (v := ?_) rfl (by kernel_rfl) (by kernel_rfl) (by kernel_rfl) (fun _ _ _ h => h) (Or.inl ⟨by rfl, ?_⟩) (by assumption) ?_
    rotate_left
    · intro w hSw
      try dsimp only at hSw
      go_simp
      try with_reducible rfl
    try simp only [Act.put, List.setIfInBounds_toArray, List.set_cons_zero, List.set_cons_succ]
    refine wpAnyH_take (i := 11) (v := ?_) rfl (by kernel_rfl) (by kernel_rfl) (by kernel_rfl) (fun _ _ _ h => h) (Or.inl ⟨by rfl, ?_⟩) (by assumption) ?_
    rotate_left
    · intro w hSw
      try dsimp only at hSw
      go_simp
      try with_reducible rfl
    try simp only [Act.put, List.setIfInBounds_toArray, List.set_cons_zero, List.set_cons_succ]
    refine wpAnyH_take (i := 12) (v := ?_) rfl (by kernel_rfl) (by kernel_rfl) (by kernel_rfl) (fun _ _ _ h => h) (Or.inl ⟨by rfl, ?_⟩) (by assumption) ?_
    rotate_left
    · intro w hSw
      try dsimp only at hSw
      go_simp
      try with_reducible rfl
    try simp only [Act.put, List.setIfInBounds_toArray, List.set_cons_zero, List.set_cons_succ]
    refine wpAnyH_take (i := 13) (v := ?_) rfl (by kernel_rfl) (by kernel_rfl) (by kernel_rfl) (fun _ _ _ h => h) (Or.inl ⟨by rfl, ?_⟩) (by assumption) ?_
    rotate_left
    · intro w hSw
      try dsimp only at hSw
      go_simp
      try with_reducible rfl
    try simp only [Act.put, List.setIfInBounds_toArray, List.set_cons_zero, List.set_cons_succ]
    refine wpAnyH_take (i := 14) (v := ?_) rfl (by kernel_rfl) (by kernel_rfl) (by kernel_rfl) (fun _ _ _ h => h) (Or.inl ⟨by rfl, ?_⟩) (by assumption) ?_
    rotate_left
    · intro w hSw
      try dsimp only at hSw
      go_simp
      try with_reducible rfl
    try simp only [Act.put, List.setIfInBounds_toArray, List.set_cons_zero, List.set_cons_succ]
    refine wpAnyH_ready (rs := [10]) (by kernel_rfl) (by simp) ?_
    refine AllReadyH.cons rfl (fun K hK => ?_) AllReadyH.nil
    go_simp
    go_at_call 12; refine (join_any2 a c xs a2 c2 ys _ (b1'.out) (b2'.out) hl1 hl2 N hN.out).mono ?_; rintro e wj ⟨rfl, huj, hbj⟩; have k6 := ck (W := W.drew) q6 hbj; have k7 := ck (W := W.drew) q7 hbj; have k8 := fk (W := W.drew) q6 q8 hbj; have k9 := fk (W := W.drew) q7 q9 hbj; have hszj := lt_cell k6
    refine hK.out _ _ ⟨ck (W := W.drew) q1 hbj, ck (W := W.drew) q2 hbj, ck (W := W.drew) q3 hbj, ck (W := W.drew) q4 hbj, ck (W := W.drew) q5 hbj⟩ (fun hHeld => ?_)
    clear hK K
    try simp only [Act.put, List.setIfInBounds_toArray, List.set_cons_zero, List.set_cons_succ]
    refine wpAnyH_take (i := 15) (v := ?_) rfl (by kernel_rfl) (by kernel_rfl) (by kernel_rfl) (fun _ _ _ h => h) (Or.inl ⟨by rfl, ?_⟩) (by assumption) ?_
    rotate_left
    · intro w hSw
      try dsimp only at hSw
      go_simp
      try with_reducible rfl
    try simp only [Act.put, List.setIfInBounds_toArray, List.set_cons_zero, List.set_cons_succ]
    refine wpAnyH_take (i := 16) (v := undef) rfl (by kernel_rfl) (by kernel_rfl) (by kernel_rfl) (fun _ _ _ h => h) (Or.inr ⟨by rfl, rfl⟩) (by assumption) ?_
    try simp only [Act.put, List.setIfInBounds_toArray, List.set_cons_zero, List.set_cons_succ]
    refine wpAnyH_take (i := 17) (v := undef) rfl (by kernel_rfl) (by kernel_rfl) (by kernel_rfl) (fun _ _ _ h => h) (Or.inr ⟨by rfl, rfl⟩) (by assumption) ?_
    try simp only [Act.put, List.setIfInBounds_toArray, List.set_cons_zero, List.set_cons_succ]
    refine wpAnyH_take (i := 18) (v := undef) rfl (by kernel_rfl) (by kernel_rfl) (by kernel_rfl) (fun _ _ _ h => h) (Or.inr ⟨by rfl, rfl⟩) (by assumption) ?_
    try simp only [Act.put, List.setIfInBounds_toArray, List.set_cons_zero, List.set_cons_succ]
    refine wpAnyH_take (i := 19) (v := undef) rfl (by kernel_rfl) (by kernel_rfl) (by kernel_rfl) (fun _ _ _ h => h) (Or.inr ⟨by rfl, rfl⟩) (by assumption) ?_
    try simp only [Act.put, List.setIfInBounds_toArray, List.set_cons_zero, List.set_cons_succ]
    refine wpAnyH_take (i := 20) (v := ?_) rfl (by kernel_rfl) (by kernel_rfl) (by kernel_rfl) (fun _ _ _ h => h) (Or.inl ⟨by rfl, ?_⟩) (by assumption) ?_
    rotate_left
    · intro w hSw
      try dsimp only at hSw
      go_simp
      try with_reducible rfl
    try simp only [Act.put, List.setIfInBounds_toArray, List.set_cons_zero, List.set_cons_succ]
    refine wpAnyH_take (i := 21) (v := ?_) rfl (by kernel_rfl) (by kernel_rfl) (by kernel_rfl) (fun _ _ _ h => h) (Or.inl ⟨by rfl, ?_⟩) (by assumption) ?_
    rotate_left
    · intro w hSw
      try dsimp only at hSw
      go_simp
      try with_reducible rfl
    try simp only [Act.put, List.setIfInBounds_toArray, List.set_cons_zero, List.set_cons_succ]
    refine wpAnyH_ready (rs := [22]) (by kernel_rfl) (by simp) ?_
    refine AllReadyH.cons rfl (fun K hK => ?_) AllReadyH.nil
    go_simp
    refine hK.out _ _ ⟨ca (ck (W := W.drew) q1 hbj), ca (ck (W := W.drew) q2 hbj), ca (ck (W := W.drew) q3 hbj), ca (ck (W := W.drew) q4 hbj), ca (ck (W := W.drew) q5 hbj)⟩ (fun hHeld => ?_)
    clear hK K
    try simp only [Act.put, List.setIfInBounds_toArray, List.set_cons_zero, List.set_cons_succ]
    refine wpAnyH_take (i := 23) (v := ?_) rfl (by kernel_rfl) (by kernel_rfl) (by kernel_rfl) (fun _ _ _ h => h) (Or.inl ⟨by rfl, ?_⟩) (by assumption) ?_
    rotate_left
    · intro w hSw
      try dsimp only at hSw
      go_simp
      try with_reducible rfl
    try simp only [Act.put, List.setIfInBounds_toArray, List.set_cons_zero, List.set_cons_succ]
    refine wpAnyH_take (i := 24) (v := ?_) rfl (by kernel_rfl) (by kernel_rfl) (by kernel_rfl) (fun _ _ _ h => h) (Or.inl ⟨by rfl, ?_⟩) (by assumption) ?_
    rotate_left
    · intro w hSw
      try dsimp only at hSw
      go_simp
      try with_reducible rfl
    try simp only [Act.put, List.setIfInBounds_toArray, List.set_cons_zero, List.set_cons_succ]
    refine wpAnyH_ready (rs := [25]) (by kernel_rfl) (by simp) ?_
    refine AllReadyH.cons rfl (fun K hK => ?_) AllReadyH.nil
    go_simp
    refine hK.out _ _ ⟨ca (cs (cs (ck (W := W.drew) q1 hbj) d1.out) d1.out), ca (cs (cs (ck (W := W.drew) q2 hbj) d2.out) d2.out), ca (cs (cs (ck (W := W.drew) q3 hbj) d2.out) d2.out), ca (cs (cs (ck (W := W.drew) q4 hbj) d3.out) d3.out), ca (cs (cs (ck (W := W.drew) q5 hbj) d3.out) d3.out)⟩ (fun hHeld => ?_)
    clear hK K
    try simp only [Act.put, List.setIfInBounds_toArray, List.set_cons_zero, List.set_cons_succ]
    refine wpAnyH_done (by kernel_rfl) ?_ _
    have hU := Lib.hid huj
    have hB := Lib.hid (q11.trans ((Below.refl _ _).drew.trans (hbj.mono (by show _ ≤ W.heap.size; omega))))
    clear huj hbj
    have hz := two_cells (g := w.heap.size + 1 + 1) (x := .iface 37 (.pointer (some ⟨wj.heap.size, 0, none⟩))) (y := .int .i32 la) (O := .cells #[.slice (some ⟨W.heap.size, 0, none⟩) N N, .int .i32 0, .bool true, .bool false, .bool false] 39) k6 k7
    obtain ⟨z0, z1⟩ := hz
    have Z0 := Lib.hid z0
    have Z1 := Lib.hid z1
    clear z0 z1
    go_wp2
    have z0 := Z0.out
    have z1 := Z1.out
    refine bodyPost_ret (v := .agg #[.iface 37 (.pointer (some ⟨wj.heap.size, 0, none⟩)), .int .i32 la]) (by simp [results, Try.results7, go_sem, z0, z1]) rfl ?_
    exact foldPost rfl hB.out hU.out (by intro b off cap h; simp at h; omega) (Nat.le_add_right _ 2)

end Go.Proofs.Ytbjlgcomimcjlaa
