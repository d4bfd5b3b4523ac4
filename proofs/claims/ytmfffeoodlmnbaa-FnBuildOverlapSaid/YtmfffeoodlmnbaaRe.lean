/- slices.Reverse of a gathered sequence of intervals: the walk. -/
import Derived.Test.YtmfffeoodlmnbaaMr
import Derived.Test.YtmfffeoodlmnbaaPj
namespace Go.Proofs.Ytmfffeoodlmnbaa.Re
set_option linter.unusedSimpArgs false
set_option linter.unusedVariables false
open Go.RowKit Go.Proofs.YtmfffeoodlmnbaaW.PrintWords Go.Proofs.YtmfffeoodlmnbaaW.PrintLast Go.Proofs.YtmfffeoodlmnbaaW.PrintMore Go.Proofs.Ytmfffeoodlmnbaa.Kit Go.Proofs.Ytmfffeoodlmnbaa.Sp Go.Proofs.Ytmfffeoodlmnbaa.Se Go.Proofs.Ytmfffeoodlmnbaa.In Go.Proofs.Ytmfffeoodlmnbaa.Iv Go.Proofs.Ytmfffeoodlmnbaa.Vp Go.Proofs.Ytmfffeoodlmnbaa.Ov Go.Proofs.Ytmfffeoodlmnbaa.Mi Go.Proofs.Ytmfffeoodlmnbaa.Mr Go.Proofs.Ytmfffeoodlmnbaa.Pj
theorem RT.els {w0 W : World} {b n cap : Nat} {acc : List S63} (h : RT w0 W (.slice (some ⟨b, 0, none⟩) n cap) acc) (i : Nat) (hi : i < n) :
    W.cell? ⟨b, i * 2, none⟩ = some (.int .i64 (acc.getD i z63).f0) ∧ W.cell? ⟨b, i * 2 + 1, none⟩ = some (.int .i64 (acc.getD i z63).f1) ∧ W.there b (i * 2) 2 := by
  obtain ⟨c, hc, hM, hcell, hfr⟩ := Kd.R_elem h z63 (i : Int) (by omega) (by omega)
  rw [Int.toNat_natCast] at hM hcell hfr
  have hcc := k63_openM hM
  subst hcc
  have h0 : W.cell? ⟨b, i * 2, none⟩ = some (.int .i64 (acc.getD i z63).f0) := hcell 0 _ rfl
  have h1 : W.cell? ⟨b, i * 2 + 1, none⟩ = some (.int .i64 (acc.getD i z63).f1) := hcell 1 _ rfl
  refine ⟨h0, h1, fun j hj => ?_⟩
  match j, hj with
  | 0, _ => exact ⟨by rw [Nat.add_zero, h0]; rfl, hfr 0⟩
  | 1, _ => exact ⟨by rw [h1]; rfl, hfr 1⟩
theorem RT.whole {w0 W : World} {b n cap : Nat} {acc : List S63} (h : RT w0 W (.slice (some ⟨b, 0, none⟩) n cap) acc) (i : Nat) (hi : i < n) (x : S63) :
    RT w0 (W.setCells b (i * 2) [.int .i64 x.f0, .int .i64 x.f1]) (.slice (some ⟨b, 0, none⟩) n cap) (acc.set i x) := by
  obtain ⟨c, hc, hM, hcell, hfr⟩ := Kd.R_elem h z63 (i : Int) (by omega) (by omega)
  rw [Int.toNat_natCast] at hM hcell hfr
  have hcc := k63_openM hM
  subst hcc
  have := Kd.R_seg h (i : Int) (by omega) (by omega) (seg := [.int .i64 x.f0, .int .i64 x.f1]) (j := 0) hc (by rw [Int.toNat_natCast]; exact hcell) (Nat.le_refl 2) (okp := fun _ => False) (x' := x) (k63_mkM _ _ _ _) (fun _ hk => hk.elim)
  rw [Int.toNat_natCast] at this
  exact this.1
theorem only_set2 {W V : World} {b : Nat} (h : Only b W V) (k : Nat) (x y : Value) : Only b W (V.setCells b k [x, y]) := (h.set k x).set (k + 1) y
/-- i elements at each end exchanged. -/
def Sw (acc L : List S63) (i n : Nat) : Prop := L.length = n ∧ ∀ t, t < n → L.getD t z63 = if t < i ∨ n - i ≤ t then acc.getD (n - 1 - t) z63 else acc.getD t z63
theorem Sw.start (acc : List S63) : Sw acc acc 0 acc.length := ⟨rfl, fun t ht => by rw [if_neg (by omega)]⟩
theorem getD_set (L : List S63) (i t : Nat) (x : S63) (hi : i < L.length) : (L.set i x).getD t z63 = if t = i then x else L.getD t z63 := by
  rw [List.getD_eq_getElem?_getD, List.getD_eq_getElem?_getD, List.getElem?_set]
  by_cases h : i = t
  · subst h; simp [hi]
  · rw [if_neg h, if_neg (fun e => h e.symm)]
theorem Sw.step {acc L : List S63} {i j n : Nat} (h : Sw acc L i n) (hij : i + j + 1 = n) (hlt : i < j) : Sw acc ((L.set i (L.getD j z63)).set j (L.getD i z63)) (i + 1) n := by
  obtain ⟨h1, h2⟩ := h
  refine ⟨by simp [h1], fun t ht => ?_⟩
  rw [getD_set _ _ _ _ (by simp; omega), getD_set _ _ _ _ (by omega)]
  have hj := h2 j (by omega)
  have hi := h2 i (by omega)
  rw [if_neg (by omega)] at hj hi
  by_cases e1 : t = j
  · subst e1; rw [if_pos rfl, if_pos (by omega), hi]; congr 1; omega
  · rw [if_neg e1]
    by_cases e2 : t = i
    · subst e2; rw [if_pos rfl, if_pos (by omega), hj]; congr 1; omega
    · rw [if_neg e2, h2 t ht]
      by_cases e3 : t < i ∨ n - i ≤ t
      · rw [if_pos e3, if_pos (by omega)]
      · rw [if_neg e3, if_neg (by omega)]
theorem Sw.done {acc L : List S63} {i j n : Nat} (hn : acc.length = n) (h : Sw acc L i n) (hij : i + j + 1 = n) (hge : j ≤ i) (hle : i ≤ j + 1) : L = acc.reverse := by
  obtain ⟨h1, h2⟩ := h
  apply List.ext_getElem (by rw [h1, List.length_reverse, hn])
  intro t ht1 ht2
  rw [List.getElem_reverse]
  have := h2 t (by omega)
  have ha : ∀ k, (hk : k < acc.length) → acc.getD k z63 = acc[k] := fun k hk => by rw [List.getD_eq_getElem?_getD, List.getElem?_eq_getElem hk]; rfl
  rw [List.getD_eq_getElem?_getD, List.getElem?_eq_getElem ht1] at this
  simp only [Option.getD_some] at this
  rw [this]
  by_cases e : t < i ∨ n - i ≤ t
  · rw [if_pos e, ha _ (by omega)]; congr 1; omega
  · rw [if_neg e, ha _ (by omega)]; congr 1; omega
set_option maxHeartbeats 8000000 in
set_option maxRecDepth 100000 in
theorem c50 (w0 : World) (b n cap : Nat) (acc : List S63) (W : World) (hn : acc.length = n) (h0 : 0 < n) (hl : n ≤ 4000000) (h : RT w0 W (.slice (some ⟨b, 0, none⟩) n cap) acc) :
    Calls Try.prog 50 #[.slice (some ⟨b, 0, none⟩) n cap] W fun e w' => (∃ u, e = .returned u) ∧ RT w0 w' (.slice (some ⟨b, 0, none⟩) n cap) acc.reverse ∧ Only b W w' := by
  obtain ⟨j0, hj0⟩ : ∃ j : Nat, j + 1 = n := ⟨n - 1, by omega⟩
  have e0 : (n : Int) - 1 = (j0 : Int) := by omega
  have s0 : wrap64 (j0 : Int) = (j0 : Int) := w64' _ (by omega) (by omega)
  have HH := Lib.hid (And.intro hn (And.intro hl (And.intro hj0 h)))
  clear hn hl hj0 h h0
  go_enter Try.func50, Try.ntmps50
  go_wp2_with fail
  try rw [s0]
  clear e0 s0
  go_loopw [2, 3] (fun x y wr => ∃ (i j : Nat) (L : List S63), x = .int .i64 i ∧ y = .int .i64 j ∧ i + j + 1 = n ∧ i ≤ j + 1 ∧ Sw acc L i n ∧ RT w0 wr (.slice (some ⟨b, 0, none⟩) n cap) L ∧ Only b W wr) (fun x _ _ => n - (intOf x).toNat)
  case atStart =>
    obtain ⟨hn, hl, hj0, h⟩ := HH.out
    exact ⟨0, j0, acc, rfl, rfl, by omega, by omega, by rw [← hn]; exact Sw.start acc, h, Only.refl b W⟩
  case round =>
    obtain ⟨i, j, L, rfl, rfl, hij, hle, hsw, hr, ho⟩ := hrel
    obtain ⟨hn, hl, hj0, _⟩ := HH.out
    by_cases hlt : i < j
    · have t0 : decide ((i : Int) < (j : Int)) = true := decide_eq_true (by omega)
      have t1 : (i < j) = True := eq_true hlt
      obtain ⟨jm, hjm⟩ : ∃ jm : Nat, j = jm + 1 := ⟨j - 1, by omega⟩
      have e1 : (j : Int) - 1 = (jm : Int) := by omega
      have s1 : wrap64 ((i : Int) + 1) = (i : Int) + 1 := w64' _ (by omega) (by omega)
      have s2 : wrap64 (jm : Int) = (jm : Int) := w64' _ (by omega) (by omega)
      have z1 : ((i : Int) < (n : Int)) = True := eq_true (by omega)
      have z2 : ((j : Int) < (n : Int)) = True := eq_true (by omega)
      have z3 : (i < n) = True := eq_true (by omega)
      have z4 : (j < n) = True := eq_true (by omega)
      have hu63 := Try.underlying63
      obtain ⟨x0, x1, xt⟩ := RT.els hr i (by omega)
      obtain ⟨y0, y1, yt⟩ := RT.els hr j (by omega)
      have HK := Lib.hid (And.intro hij (And.intro hlt (And.intro hsw (And.intro hr (And.intro ho (And.intro xt hjm))))))
      clear hn hl hj0 hij hle hsw hr ho hlt xt yt hjm
      go_upto_region 3 with (fail)
      refine start_ (n := 16) (S := fun w' => w'.cell? ⟨b, i * 2, none⟩ = some (.int .i64 (L.getD i z63).f0) ∧ w'.cell? ⟨b, i * 2 + 1, none⟩ = some (.int .i64 (L.getD i z63).f1) ∧ w'.cell? ⟨b, j * 2, none⟩ = some (.int .i64 (L.getD j z63).f0) ∧ w'.cell? ⟨b, j * 2 + 1, none⟩ = some (.int .i64 (L.getD j z63).f1)) (ds := [13, 15]) #[false, false, false, false, false, false, false, false, false, false, false, false, false, false, false, false] (by kernel_rfl) rfl rfl (⟨x0, x1, y0, y1⟩) (fun hHeld => ?_)
      refine pure_ (i := 0) (N := some 14) (v := ?_) (a' := ?_) #[true, false, false, false, false, false, false, false, false, false, false, false, false, false, false, false] rfl rfl (by kernel_rfl) (fun _ _ _ h => h) (Or.inl ⟨by rfl, ?_⟩) ?_ ?_
      rotate_left
      · intro w'
        go_simp
        first | done | with_reducible rfl | rfl
      rotate_left
      · simp only [Act.put, List.setIfInBounds_toArray, List.set_cons_zero, List.set_cons_succ, i64_w, i32_w]
        rfl
      refine pure_ (i := 1) (N := some 15) (v := ?_) (a' := ?_) #[true, true, false, false, false, false, false, false, false, false, false, false, false, false, false, false] rfl rfl (by kernel_rfl) (fun _ _ _ h => h) (Or.inl ⟨by rfl, ?_⟩) ?_ ?_
      rotate_left
      · intro w'
        go_simp
        first | done | with_reducible rfl | rfl
      rotate_left
      · simp only [Act.put, List.setIfInBounds_toArray, List.set_cons_zero, List.set_cons_succ, i64_w, i32_w]
        rfl
      refine pure_ (i := 2) (N := some 16) (v := ?_) (a' := ?_) #[true, true, true, false, false, false, false, false, false, false, false, false, false, false, false, false] rfl rfl (by kernel_rfl) (fun _ _ _ h => h) (Or.inl ⟨by rfl, ?_⟩) ?_ ?_
      rotate_left
      · intro w'
        go_simp
        first | done | with_reducible rfl | rfl
      rotate_left
      · simp only [Act.put, List.setIfInBounds_toArray, List.set_cons_zero, List.set_cons_succ, i64_w, i32_w]
        rfl
      refine pure_ (i := 3) (N := some 17) (v := ?_) (a' := ?_) #[true, true, true, true, false, false, false, false, false, false, false, false, false, false, false, false] rfl rfl (by kernel_rfl) (fun _ _ _ h => h) (Or.inl ⟨by rfl, ?_⟩) ?_ ?_
      rotate_left
      · intro w'
        go_simp
        first | done | with_reducible rfl | rfl
      rotate_left
      · simp only [Act.put, List.setIfInBounds_toArray, List.set_cons_zero, List.set_cons_succ, i64_w, i32_w]
        rfl
      refine pure_ (i := 4) (N := some 18) (v := ?_) (a' := ?_) #[true, true, true, true, true, false, false, false, false, false, false, false, false, false, false, false] rfl rfl (by kernel_rfl) (fun _ _ _ h => h) (Or.inl ⟨by rfl, ?_⟩) ?_ ?_
      rotate_left
      · intro w'
        go_simp
        first | done | with_reducible rfl | rfl
      rotate_left
      · simp only [Act.put, List.setIfInBounds_toArray, List.set_cons_zero, List.set_cons_succ, i64_w, i32_w]
        rfl
      refine pure_ (i := 5) (N := some 19) (v := ?_) (a' := ?_) #[true, true, true, true, true, true, false, false, false, false, false, false, false, false, false, false] rfl rfl (by kernel_rfl) (fun _ _ _ h => h) (Or.inl ⟨by rfl, ?_⟩) ?_ ?_
      rotate_left
      · intro w'
        go_simp
        first | done | with_reducible rfl | rfl
      rotate_left
      · simp only [Act.put, List.setIfInBounds_toArray, List.set_cons_zero, List.set_cons_succ, i64_w, i32_w]
        rfl
      refine pure_ (i := 6) (N := some 20) (v := ?_) (a' := ?_) #[true, true, true, true, true, true, true, false, false, false, false, false, false, false, false, false] rfl rfl (by kernel_rfl) (fun _ _ _ h => h) (Or.inl ⟨by rfl, ?_⟩) ?_ ?_
      rotate_left
      · intro w'
        go_simp
        first | done | with_reducible rfl | rfl
      rotate_left
      · simp only [Act.put, List.setIfInBounds_toArray, List.set_cons_zero, List.set_cons_succ, i64_w, i32_w]
        rfl
      refine take_ (i := 7) (N := some 21) (v := ?_) (a' := ?_) #[true, true, true, true, true, true, true, true, false, false, false, false, false, false, false, false] rfl rfl (by kernel_rfl) (fun _ _ _ h => h) (Or.inl ⟨by rfl, ?_⟩) hHeld ?_ ?_
      rotate_left
      · rintro w' ⟨s0, s1, s2, s3⟩
        go_simp
        with_reducible rfl
      rotate_left
      · simp only [Act.put, List.setIfInBounds_toArray, List.set_cons_zero, List.set_cons_succ, i64_w, i32_w]
        rfl
      refine pure_ (i := 8) (N := some 22) (v := ?_) (a' := ?_) #[true, true, true, true, true, true, true, true, true, false, false, false, false, false, false, false] rfl rfl (by kernel_rfl) (fun _ _ _ h => h) (Or.inl ⟨by rfl, ?_⟩) ?_ ?_
      rotate_left
      · intro w'
        go_simp
        first | done | with_reducible rfl | rfl
      rotate_left
      · simp only [Act.put, List.setIfInBounds_toArray, List.set_cons_zero, List.set_cons_succ, i64_w, i32_w]
        rfl
      refine pure_ (i := 9) (N := some 23) (v := ?_) (a' := ?_) #[true, true, true, true, true, true, true, true, true, true, false, false, false, false, false, false] rfl rfl (by kernel_rfl) (fun _ _ _ h => h) (Or.inl ⟨by rfl, ?_⟩) ?_ ?_
      rotate_left
      · intro w'
        go_simp
        first | done | with_reducible rfl | rfl
      rotate_left
      · simp only [Act.put, List.setIfInBounds_toArray, List.set_cons_zero, List.set_cons_succ, i64_w, i32_w]
        rfl
      refine pure_ (i := 10) (N := some 24) (v := ?_) (a' := ?_) #[true, true, true, true, true, true, true, true, true, true, true, false, false, false, false, false] rfl rfl (by kernel_rfl) (fun _ _ _ h => h) (Or.inl ⟨by rfl, ?_⟩) ?_ ?_
      rotate_left
      · intro w'
        go_simp
        first | done | with_reducible rfl | rfl
      rotate_left
      · simp only [Act.put, List.setIfInBounds_toArray, List.set_cons_zero, List.set_cons_succ, i64_w, i32_w]
        rfl
      refine take_ (i := 11) (N := some 25) (v := ?_) (a' := ?_) #[true, true, true, true, true, true, true, true, true, true, true, true, false, false, false, false] rfl rfl (by kernel_rfl) (fun _ _ _ h => h) (Or.inl ⟨by rfl, ?_⟩) hHeld ?_ ?_
      rotate_left
      · rintro w' ⟨s0, s1, s2, s3⟩
        go_simp
        with_reducible rfl
      rotate_left
      · simp only [Act.put, List.setIfInBounds_toArray, List.set_cons_zero, List.set_cons_succ, i64_w, i32_w]
        rfl
      refine pure_ (i := 12) (N := some 26) (v := ?_) (a' := ?_) #[true, true, true, true, true, true, true, true, true, true, true, true, true, false, false, false] rfl rfl (by kernel_rfl) (fun _ _ _ h => h) (Or.inl ⟨by rfl, ?_⟩) ?_ ?_
      rotate_left
      · intro w'
        go_simp
        first | done | with_reducible rfl | rfl
      rotate_left
      · simp only [Act.put, List.setIfInBounds_toArray, List.set_cons_zero, List.set_cons_succ, i64_w, i32_w]
        rfl
      obtain ⟨hij, hlt, hsw, hr, ho, xt, hjm⟩ := HK.out
      have r0 : RT w0 wr.drew (.slice (some ⟨b, 0, none⟩) n cap) L := hr.below (below_drew1 (Below.refl _ _))
      have o0 : Only b W wr.drew := ho.below (below_drew1 (Below.refl _ _))
      have r1 := RT.whole r0 i (by omega) (L.getD j z63)
      have o1 := only_set2 o0 (i * 2) (.int .i64 (L.getD j z63).f0) (.int .i64 (L.getD j z63).f1)
      have xt1 := (RT.els r0 i (by omega)).2.2
      clear hij hlt hsw hr ho xt hjm x0 x1 y0 y1 hHeld
      generalize wr.drew = Wd at *
      refine last_ (i := 13) (N := none) #[true, true, true, true, true, true, true, true, true, true, true, true, true, true, false, false] rfl rfl (by kernel_rfl) (by decide) (fun K hK => ?_)
      rw [if_pos (by rfl)]
      refine wp_store_mid 63 (.tmp 26) (.tmp 21) rfl b (i * 2) #[.int .i64 (L.getD j z63).f0, .int .i64 (L.getD j z63).f1] rfl rfl xt1 (by kernel_rfl) (by simp [Value.oneCell']) ?_
      refine hK.out _ _ ?_
      clear hK K
      generalize Wd.setCells b (i * 2) _ = W1 at *
      refine norm_ (a' := ?_) ?_ ?_
      rotate_left
      · show Act.put _ none _ = _
        rfl
      refine pure_ (i := 14) (N := some 27) (v := ?_) (a' := ?_) #[true, true, true, true, true, true, true, true, true, true, true, true, true, true, true, false] rfl rfl (by kernel_rfl) (fun _ _ _ h => h) (Or.inl ⟨by rfl, ?_⟩) ?_ ?_
      rotate_left
      · intro w'
        go_simp
        first | done | with_reducible rfl | rfl
      rotate_left
      · simp only [Act.put, List.setIfInBounds_toArray, List.set_cons_zero, List.set_cons_succ, i64_w, i32_w]
        rfl
      have yt1 := (RT.els r1 j (by have := HK.out.1; omega)).2.2
      have r2 := RT.whole r1 j (by have := HK.out.1; omega) (L.getD i z63)
      have o2 := only_set2 o1 (j * 2) (.int .i64 (L.getD i z63).f0) (.int .i64 (L.getD i z63).f1)
      refine last_ (i := 15) (N := none) #[true, true, true, true, true, true, true, true, true, true, true, true, true, true, true, true] rfl rfl (by kernel_rfl) (by decide) (fun K hK => ?_)
      rw [if_pos (by rfl)]
      refine wp_store_mid 63 (.tmp 27) (.tmp 25) rfl b (j * 2) #[.int .i64 (L.getD i z63).f0, .int .i64 (L.getD i z63).f1] rfl rfl yt1 (by kernel_rfl) (by simp [Value.oneCell']) ?_
      refine hK.out _ _ ?_
      clear hK K
      generalize W1.setCells b (j * 2) _ = W2 at *
      refine done_ (by kernel_rfl) ?_
      clear r1 o1 r0 o0 xt1 yt1
      go_wp2
      rw [s1, s2]
      clear s1 s2 z1 z2 z3 z4 t0 t1
      obtain ⟨hij, hlt, hsw, _, _, _, hjm⟩ := HK.out
      refine ⟨⟨i + 1, jm, _, by rw [Int.natCast_add]; rfl, rfl, by omega, by omega, Sw.step hsw hij hlt, r2, o2⟩, ?_⟩
      show n - ((i : Int) + 1).toNat < n - ((i : Int)).toNat
      omega
    · obtain ⟨_, _, _, _⟩ := HH.out
      have t0 : decide ((i : Int) < (j : Int)) = false := decide_eq_false (by omega)
      have t1 : (i < j) = False := eq_false hlt
      have e := hsw.done hn hij (by omega) hle
      rw [e] at hr
      clear hsw hij hle hlt e hn hl hj0
      go_wp2
      exact bodyPost_end (v := .tuple #[]) (by simp [results, Try.results50, go_sem]) rfl ⟨⟨_, rfl⟩, hr, ho⟩
end Go.Proofs.Ytmfffeoodlmnbaa.Re
