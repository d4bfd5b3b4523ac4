/- The builder: last, setLast, Kill. The walks. -/
import Derived.Test.YtmfffeoodlmnbaaMr
import Derived.Test.YtmfffeoodlmnbaaPj
namespace Go.Proofs.Ytmfffeoodlmnbaa.Bu
set_option linter.unusedSimpArgs false
set_option linter.unusedVariables false
open Go.RowKit Go.Proofs.YtmfffeoodlmnbaaW.PrintWords Go.Proofs.YtmfffeoodlmnbaaW.PrintLast Go.Proofs.YtmfffeoodlmnbaaW.PrintMore Go.Proofs.Ytmfffeoodlmnbaa.Kit Go.Proofs.Ytmfffeoodlmnbaa.Sp Go.Proofs.Ytmfffeoodlmnbaa.Se Go.Proofs.Ytmfffeoodlmnbaa.In Go.Proofs.Ytmfffeoodlmnbaa.Iv Go.Proofs.Ytmfffeoodlmnbaa.Vp Go.Proofs.Ytmfffeoodlmnbaa.Ov Go.Proofs.Ytmfffeoodlmnbaa.Mi Go.Proofs.Ytmfffeoodlmnbaa.Mr Go.Proofs.Ytmfffeoodlmnbaa.Pj
/-- the builder at g: what it has gathered (v), its last place and one. -/
structure BS (w0 : World) (g : Nat) (v : Value) (acc : List S63) (p : Int) (W : World) : Prop where
  bg : W.heap[g]? = some (.cells #[v, .int .i64 p] 54 (0, 0))
  rt : RT w0 W v acc
  hg : w0.heap.size ≤ g
  below : Below w0.heap.size w0 W
section
variable {w0 W W1 : World} {g : Nat} {v v1 : Value} {acc acc1 : List S63} {p : Int}
theorem BS.call (S : BS w0 g v acc p W) (hb : Below W.heap.size W W1) : BS w0 g v acc p W1 := ⟨blk_below S.bg hb, S.rt.below hb, S.hg, S.below.trans (hb.mono S.below.size)⟩
theorem BS.k0 (S : BS w0 g v acc p W) : W.cell? ⟨g, 0, none⟩ = some v := (blk_cell S.bg 0).trans rfl
theorem BS.k1 (S : BS w0 g v acc p W) : W.cell? ⟨g, 1, none⟩ = some (.int .i64 p) := (blk_cell S.bg 1).trans rfl
theorem BS.f0 (S : BS w0 g v acc p W) : W.frozen? ⟨g, 0, none⟩ = false := blk_frozen S.bg 0
theorem BS.f1 (S : BS w0 g v acc p W) : W.frozen? ⟨g, 1, none⟩ = false := blk_frozen S.bg 1
theorem BS.set1 (S : BS w0 g v acc p W) (q : Int) : BS w0 g v acc q (W.setCell ⟨g, 1, none⟩ (.int .i64 q)) :=
  ⟨blk_put S.bg 1 _ rfl, S.rt.only S.bg (by decide) (Only.refl g W |>.set 1 _).keep, S.hg, S.below.setCell S.hg _⟩
theorem BS.put (S : BS w0 g v acc p W) (hgr : W.grownBy W1 v.ownBlock) (hb : Below w0.heap.size w0 W1) (hr : RT w0 W1 v1 acc1) : BS w0 g v1 acc1 p (W1.setCell ⟨g, 0, none⟩ v1) :=
  have hb1 := blk_grown S.bg hgr (Kd.R_ne S.rt S.bg (by decide))
  ⟨blk_put hb1 0 _ rfl, hr.only hb1 (by decide) (Only.refl g W1 |>.set 0 _).keep, S.hg, hb.setCell S.hg _⟩
theorem BS.frz (S : BS w0 g v acc p W) (hgr : W.grownBy W1 v.ownBlock) : W1.cell? ⟨g, 0, none⟩ = some v ∧ W1.frozen? ⟨g, 0, none⟩ = false :=
  have hb1 := blk_grown S.bg hgr (Kd.R_ne S.rt S.bg (by decide))
  ⟨(blk_cell hb1 0).trans rfl, blk_frozen hb1 0⟩
end
set_option maxHeartbeats 8000000 in
theorem c48 (w0 : World) (g : Nat) (v : Value) (acc : List S63) (p : Int) (W : World) (S : BS w0 g v acc p W) (h : -4611686018427387904 ≤ p) (h' : p ≤ 4611686018427387904) :
    Calls Try.prog 48 #[.pointer (some ⟨g, 0, none⟩)] W fun e w' => e = .returned (.int .i64 (p - 1)) ∧ BS w0 g v acc p w' := by
  have k1 := S.k1
  have s1 : wrap64 (p - 1) = p - 1 := w64' _ (by omega) (by omega)
  go_enter Try.func48, Try.ntmps48
  go_wp2
  exact bodyPost_ret (v := .int .i64 (p - 1)) (by simp [results, Try.results48, go_sem, s1]) rfl ⟨rfl, S⟩
set_option maxHeartbeats 8000000 in
theorem c49 (w0 : World) (g : Nat) (v : Value) (acc : List S63) (p q : Int) (W : World) (S : BS w0 g v acc p W) (h : -4611686018427387904 ≤ q) (h' : q ≤ 4611686018427387904) :
    Calls Try.prog 49 #[.pointer (some ⟨g, 0, none⟩), .int .i64 q] W fun e w' => (∃ u, e = .returned u) ∧ BS w0 g v acc (q + 1) w' := by
  have k1 := S.k1
  have f1 := S.f1
  have s1 : wrap64 (q + 1) = q + 1 := w64' _ (by omega) (by omega)
  go_enter Try.func49, Try.ntmps49
  go_wp2
  exact bodyPost_end (v := .tuple #[]) (by simp [results, Try.results49, go_sem]) rfl ⟨⟨_, rfl⟩, S.set1 _⟩
theorem c48' (w0 : World) (g : Nat) (v : Value) (acc : List S63) (p r : Int) (hr : p - 1 = r) (W : World) (S : BS w0 g v acc p W) (h : -4611686018427387904 ≤ p) (h' : p ≤ 4611686018427387904) :
    Calls Try.prog 48 #[.pointer (some ⟨g, 0, none⟩)] W fun e w' => e = .returned (.int .i64 r) ∧ BS w0 g v acc p w' := by
  subst hr
  exact c48 w0 g v acc p W S h h'
theorem c49' (w0 : World) (g : Nat) (v : Value) (acc : List S63) (p q r : Int) (hr : q + 1 = r) (W : World) (S : BS w0 g v acc p W) (h : -4611686018427387904 ≤ q) (h' : q ≤ 4611686018427387904) :
    Calls Try.prog 49 #[.pointer (some ⟨g, 0, none⟩), .int .i64 q] W fun e w' => (∃ u, e = .returned u) ∧ BS w0 g v acc r w' := by
  subst hr
  exact c49 w0 g v acc p q W S h h'
/-- Kill where nothing lives. -/
theorem c31_a (w0 : World) (g : Nat) (v : Value) (acc : List S63) (pos : Int) (hpos : 0 ≤ pos) (W : World) (S : BS w0 g v acc 0 W) :
    Calls Try.prog 31 #[.pointer (some ⟨g, 0, none⟩), .int .i64 pos] W fun e w' => e = .returned .nilIface ∧ BS w0 g v acc 0 w' := by
  have t0 : decide (pos < 0) = false := decide_eq_false (by omega)
  have H := Lib.hid (c48' w0 g v acc 0 (-1) rfl W S (by omega) (by omega))
  clear S
  go_enter Try.func31, Try.ntmps31
  go_wp2_with (go_at_call 48; refine H.out.mono ?_; rintro e W1 ⟨rfl, S1⟩)
  exact bodyPost_ret (v := .nilIface) (by simp [results, Try.results31, go_sem]) rfl ⟨rfl, S1⟩
set_option maxHeartbeats 8000000 in
theorem c32_a (w0 : World) (g : Nat) (v : Value) (acc : List S63) (pos q : Int) (hq : pos + 1 = q) (hpos : 0 ≤ pos) (hpos' : pos ≤ 1099511627776) (hl : acc.length ≤ 4000000) (W : World) (S : BS w0 g v acc 0 W) :
    Calls Try.prog 32 #[.pointer (some ⟨g, 0, none⟩), .int .i64 pos] W fun e w' => e = .returned .nilIface ∧ ∃ v', BS w0 g v' (acc ++ [⟨pos, q⟩]) q w' := by
  have t0 : decide (pos < 0) = false := decide_eq_false (by omega)
  have H := Lib.hid (c48' w0 g v acc 0 (-1) rfl W S (by omega) (by omega))
  have H2 : Hid (∀ W, BS w0 g v acc 0 W → Calls Try.prog 49 #[.pointer (some ⟨g, 0, none⟩), .int .i64 pos] W fun e w' => (∃ u, e = .returned u) ∧ BS w0 g v acc q w') := Lib.hid (fun W S => c49' w0 g v acc 0 pos q hq W S (by omega) (by omega))
  have s1 : wrap64 (pos + 1) = q := by rw [w64' _ (by omega) (by omega)]; exact hq
  have HL := Lib.hid (show (acc.length + 1) * 16 ≤ 140737488355328 by omega)
  clear S hq hpos hpos' hl
  go_enter Try.func32, Try.ntmps32
  go_upto_region 5 with (first
    | (go_at_call 48; refine H.out.mono ?_; rintro e W1 ⟨rfl, S1⟩)
    | (go_at_call 49; refine (H2.out _ S1).mono ?_; rintro e W2 ⟨⟨u, rfl⟩, S2⟩))
  have k0 := S2.k0
  have f0 := S2.f0
  go_wp2_with (first
    | ((with_reducible refine gate_builtin (b := .append) (xs := #[.tmp 18, .tmp 23]) rfl ?_); at_builtin; refine Kd.R_append k63 (w0 := w0) w0.heap.size rfl (.tmp 18) (.tmp 23) 49 63 (.agg #[(.int .i64 0), (.int .i64 0)]) 16 rfl Try.underlying49 info63 rfl (by decide) (by omega) _ acc (⟨pos, q⟩ : S63) [.int .i64 pos, .int .i64 q] (fun _ => True) (fun _ => False) rfl rfl ?aP (fun _ hk => hk.elim) ?aF ?aO ?aB ?aS ?aL ?_; (case aP => exact k63_mkM _ _ _ (⟨pos, q⟩ : S63)); (case aB => exact S2.below); (case aF => exact (fun _ _ => trivial)); (case aO => exact S2.rt); (case aS => exact S2.below.size); (case aL => exact HL.out); intro v1 W3 ho hb hgr hat; clear hat; obtain ⟨A1, cc1, hv1⟩ := Kd.R_slice ho; generalize (acc ++ [(⟨pos, q⟩ : S63)]).length = m1 at hv1; subst hv1; have S3 := S2.put hgr hb ho; have k3 := (S2.frz hgr).1; have f3 := (S2.frz hgr).2; clear hgr hb ho))
  exact bodyPost_ret (v := .nilIface) (by simp [results, Try.results32, go_sem]) rfl ⟨rfl, _, S3⟩
/-- an element's start is written. -/
theorem RT.low {w0 W : World} {b n cap : Nat} {acc : List S63} (h : RT w0 W (.slice (some ⟨b, 0, none⟩) n cap) acc) (i : Nat) (hi : i < n) (q : Int) :
    RT w0 (W.setCell ⟨b, i * 2, none⟩ (.int .i64 q)) (.slice (some ⟨b, 0, none⟩) n cap) (acc.set i ⟨q, (acc.getD i z63).f1⟩) ∧ W.grownBy (W.setCell ⟨b, i * 2, none⟩ (.int .i64 q)) (some b) ∧
      W.cell? ⟨b, i * 2, none⟩ = some (.int .i64 (acc.getD i z63).f0) ∧ W.frozen? ⟨b, i * 2, none⟩ = false := by
  obtain ⟨c, hc, hM, hcell, hfr⟩ := Kd.R_elem h z63 (i : Int) (by omega) (by omega)
  rw [Int.toNat_natCast] at hM hcell hfr
  have hcc := k63_openM hM
  subst hcc
  have := Kd.R_seg h (i : Int) (by omega) (by omega) (seg := [.int .i64 q]) (j := 0) hc (by rw [Int.toNat_natCast]; exact hcell) (Nat.le_succ 1) (okp := fun _ => False) (x' := (⟨q, (acc.getD i z63).f1⟩ : S63)) (k63_mkM _ _ _ _) (fun _ hk => hk.elim)
  rw [Int.toNat_natCast] at this
  exact ⟨this.1, this.2, hcell 0 _ rfl, hfr 0⟩
theorem BS.low {w0 W : World} {g b n cap : Nat} {acc : List S63} {p : Int} (S : BS w0 g (.slice (some ⟨b, 0, none⟩) n cap) acc p W) (i : Nat) (hi : i < n) (q : Int) :
    BS w0 g (.slice (some ⟨b, 0, none⟩) n cap) (acc.set i ⟨q, (acc.getD i z63).f1⟩) p (W.setCell ⟨b, i * 2, none⟩ (.int .i64 q)) :=
  have hr := RT.low S.rt i hi q
  have hb : w0.heap.size ≤ b := Kd.R_base S.rt b (by simp [Value.ownBlock])
  ⟨blk_grown S.bg hr.2.1 (by have := Kd.R_ne S.rt S.bg (by decide); simpa [Value.ownBlock] using this), hr.1, S.hg, S.below.setCell hb _⟩
set_option maxHeartbeats 8000000 in
set_option maxRecDepth 100000 in
theorem c32_b (w0 : World) (g b n cap : Nat) (acc : List S63) (pos p q r : Int) (hr : p - 1 = r) (hq : pos + 1 = q) (hpos : 0 ≤ pos) (hlt : pos < r) (hp : p ≤ 1099511627777) (i1 : Int) (k : Nat) (hk : i1 = (k : Int)) (hi1 : (n : Int) - 1 = i1) (hl : n ≤ 4000000) (W : World) (S : BS w0 g (.slice (some ⟨b, 0, none⟩) n cap) acc p W) :
    Calls Try.prog 32 #[.pointer (some ⟨g, 0, none⟩), .int .i64 pos] W fun e w' => e = .returned .nilIface ∧ BS w0 g (.slice (some ⟨b, 0, none⟩) n cap) (acc.set k ⟨pos, (acc.getD k z63).f1⟩) q w' := by
  have t0 : decide (pos < 0) = false := decide_eq_false (by omega)
  have t1 : (r == -1) = false := beq_false_of_ne (by omega)
  have t2 : decide (pos ≥ r) = false := decide_eq_false (by omega)
  have H : Hid (∀ W, BS w0 g (.slice (some ⟨b, 0, none⟩) n cap) acc p W → Calls Try.prog 48 #[.pointer (some ⟨g, 0, none⟩)] W fun e w' => e = .returned (.int .i64 r) ∧ BS w0 g (.slice (some ⟨b, 0, none⟩) n cap) acc p w') := Lib.hid (fun W S => c48' w0 g _ acc p r hr W S (by omega) (by omega))
  have H2 : Hid (∀ W acc, BS w0 g (.slice (some ⟨b, 0, none⟩) n cap) acc p W → Calls Try.prog 49 #[.pointer (some ⟨g, 0, none⟩), .int .i64 pos] W fun e w' => (∃ u, e = .returned u) ∧ BS w0 g (.slice (some ⟨b, 0, none⟩) n cap) acc q w') := Lib.hid (fun W acc S => c49' w0 g _ acc p pos q hq W S (by omega) (by omega))
  have s2 : wrap64 i1 = i1 := w64' _ (by omega) (by omega)
  have z2 : ((0 : Int) ≤ i1) = True := eq_true (by omega)
  have z3 : (i1 < (n : Int)) = True := eq_true (by omega)
  have ek : i1.toNat = k := by omega
  have HN := Lib.hid (show k < n by omega)
  clear hq hpos hlt hp hl hr hk
  go_enter Try.func32, Try.ntmps32
  go_upto_region 9 with (first
    | (go_at_call 48; refine (H.out _ S).mono ?_; rintro e W1 ⟨rfl, S1⟩; clear S)
    | (go_at_call 48; refine (H.out _ S1).mono ?_; rintro e W2 ⟨rfl, S2⟩; clear S1))
  refine start_ (n := 14) (S := fun w' => w'.cell? ⟨g, 0, none⟩ = some (.slice (some ⟨b, 0, none⟩) n cap)) (ds := [13]) #[false, false, false, false, false, false, false, false, false, false, false, false, false, false] (by kernel_rfl) rfl rfl ((S2.call (below_drew1 (Below.refl _ _))).k0) (fun hHeld => ?_)
  have S3 := S2.call (below_drew1 (Below.refl _ _))
  clear S2
  generalize W2.drew = Wd at *
  refine pure_ (i := 0) (N := some 32) (v := ?_) (a' := ?_) #[true, false, false, false, false, false, false, false, false, false, false, false, false, false] rfl rfl (by kernel_rfl) (fun _ _ _ h => h) (Or.inl ⟨by rfl, ?_⟩) ?_ ?_
  rotate_left
  · intro w'
    go_simp
    first | done | with_reducible rfl | rfl
  rotate_left
  · simp only [Act.put, List.setIfInBounds_toArray, List.set_cons_zero, List.set_cons_succ, i64_w, i32_w]
    rfl
  refine pure_ (i := 1) (N := some 33) (v := ?_) (a' := ?_) #[true, true, false, false, false, false, false, false, false, false, false, false, false, false] rfl rfl (by kernel_rfl) (fun _ _ _ h => h) (Or.inl ⟨by rfl, ?_⟩) ?_ ?_
  rotate_left
  · intro w'
    go_simp
    first | done | with_reducible rfl | rfl
  rotate_left
  · simp only [Act.put, List.setIfInBounds_toArray, List.set_cons_zero, List.set_cons_succ, i64_w, i32_w]
    rfl
  refine pure_ (i := 2) (N := some 34) (v := ?_) (a' := ?_) #[true, true, true, false, false, false, false, false, false, false, false, false, false, false] rfl rfl (by kernel_rfl) (fun _ _ _ h => h) (Or.inl ⟨by rfl, ?_⟩) ?_ ?_
  rotate_left
  · intro w'
    go_simp
    first | done | with_reducible rfl | rfl
  rotate_left
  · simp only [Act.put, List.setIfInBounds_toArray, List.set_cons_zero, List.set_cons_succ, i64_w, i32_w]
    rfl
  refine take_ (i := 3) (N := some 35) (v := ?_) (a' := ?_) #[true, true, true, true, false, false, false, false, false, false, false, false, false, false] rfl rfl (by kernel_rfl) (fun _ _ _ h => h) (Or.inl ⟨by rfl, ?_⟩) hHeld ?_ ?_
  rotate_left
  · rintro w' s0
    go_simp
    with_reducible rfl
  rotate_left
  · simp only [Act.put, List.setIfInBounds_toArray, List.set_cons_zero, List.set_cons_succ, i64_w, i32_w]
    rfl
  refine pure_ (i := 4) (N := some 36) (v := ?_) (a' := ?_) #[true, true, true, true, true, false, false, false, false, false, false, false, false, false] rfl rfl (by kernel_rfl) (fun _ _ _ h => h) (Or.inl ⟨by rfl, ?_⟩) ?_ ?_
  rotate_left
  · intro w'
    go_simp
    first | done | with_reducible rfl | rfl
  rotate_left
  · simp only [Act.put, List.setIfInBounds_toArray, List.set_cons_zero, List.set_cons_succ, i64_w, i32_w]
    rfl
  refine pure_ (i := 5) (N := some 37) (v := ?_) (a' := ?_) #[true, true, true, true, true, true, false, false, false, false, false, false, false, false] rfl rfl (by kernel_rfl) (fun _ _ _ h => h) (Or.inl ⟨by rfl, ?_⟩) ?_ ?_
  rotate_left
  · intro w'
    go_simp
    first | done | with_reducible rfl | rfl
  rotate_left
  · simp only [Act.put, List.setIfInBounds_toArray, List.set_cons_zero, List.set_cons_succ, i64_w, i32_w]
    rfl
  refine pure_ (i := 6) (N := some 38) (v := ?_) (a' := ?_) #[true, true, true, true, true, true, true, false, false, false, false, false, false, false] rfl rfl (by kernel_rfl) (fun _ _ _ h => h) (Or.inl ⟨by rfl, ?_⟩) ?_ ?_
  rotate_left
  · intro w'
    go_simp
    first | done | with_reducible rfl | rfl
  rotate_left
  · simp only [Act.put, List.setIfInBounds_toArray, List.set_cons_zero, List.set_cons_succ, i64_w, i32_w]
    rfl
  refine take_ (i := 7) (N := some 39) (v := ?_) (a' := ?_) #[true, true, true, true, true, true, true, true, false, false, false, false, false, false] rfl rfl (by kernel_rfl) (fun _ _ _ h => h) (Or.inl ⟨by rfl, ?_⟩) hHeld ?_ ?_
  rotate_left
  · rintro w' s0
    go_simp
    with_reducible rfl
  rotate_left
  · simp only [Act.put, List.setIfInBounds_toArray, List.set_cons_zero, List.set_cons_succ, i64_w, i32_w]
    rfl
  refine pure_ (i := 8) (N := some 40) (v := ?_) (a' := ?_) #[true, true, true, true, true, true, true, true, true, false, false, false, false, false] rfl rfl (by kernel_rfl) (fun _ _ _ h => h) (Or.inl ⟨by rfl, ?_⟩) ?_ ?_
  rotate_left
  · intro w'
    go_simp
    first | done | with_reducible rfl | rfl
  rotate_left
  · simp only [Act.put, List.setIfInBounds_toArray, List.set_cons_zero, List.set_cons_succ, i64_w, i32_w]
    rfl
  refine pure_ (i := 9) (N := some 41) (v := ?_) (a' := ?_) #[true, true, true, true, true, true, true, true, true, true, false, false, false, false] rfl rfl (by kernel_rfl) (fun _ _ _ h => h) (Or.inl ⟨by rfl, ?_⟩) ?_ ?_
  rotate_left
  · intro w'
    go_simp
    first | done | with_reducible rfl | rfl
  rotate_left
  · simp only [Act.put, List.setIfInBounds_toArray, List.set_cons_zero, List.set_cons_succ, i64_w, i32_w]
    rfl
  refine pure_ (i := 10) (N := some 42) (v := ?_) (a' := ?_) #[true, true, true, true, true, true, true, true, true, true, true, false, false, false] rfl rfl (by kernel_rfl) (fun _ _ _ h => h) (Or.inl ⟨by rfl, ?_⟩) ?_ ?_
  rotate_left
  · intro w'
    go_simp
    first | done | with_reducible rfl | rfl
  rotate_left
  · simp only [Act.put, List.setIfInBounds_toArray, List.set_cons_zero, List.set_cons_succ, i64_w, i32_w]
    rfl
  refine pure_ (i := 11) (N := some 43) (v := ?_) (a' := ?_) #[true, true, true, true, true, true, true, true, true, true, true, true, false, false] rfl rfl (by kernel_rfl) (fun _ _ _ h => h) (Or.inl ⟨by rfl, ?_⟩) ?_ ?_
  rotate_left
  · intro w'
    go_simp
    first | done | with_reducible rfl | rfl
  rotate_left
  · simp only [Act.put, List.setIfInBounds_toArray, List.set_cons_zero, List.set_cons_succ, i64_w, i32_w]
    rfl
  refine pure_ (i := 12) (N := some 44) (v := ?_) (a' := ?_) #[true, true, true, true, true, true, true, true, true, true, true, true, true, false] rfl rfl (by kernel_rfl) (fun _ _ _ h => h) (Or.inl ⟨by rfl, ?_⟩) ?_ ?_
  rotate_left
  · intro w'
    go_simp
    first | done | with_reducible rfl | rfl
  rotate_left
  · simp only [Act.put, List.setIfInBounds_toArray, List.set_cons_zero, List.set_cons_succ, i64_w, i32_w]
    rfl
  have L := S3.low k HN.out pos
  obtain ⟨_, _, x0, fx⟩ := RT.low S3.rt k HN.out pos
  refine last_ (i := 13) (N := none) #[true, true, true, true, true, true, true, true, true, true, true, true, true, true] rfl rfl (by kernel_rfl) (by decide) (fun K hK => ?_)
  refine skip_ (w1 := Wd.setCell ⟨b, k * 2, none⟩ (.int .i64 pos)) (by rfl) rfl ?_ ?_
  · go_simp
  refine hK.out _ _ ?_
  clear hK K hHeld
  refine done_ (by kernel_rfl) ?_
  go_wp2_with (go_at_call 49; refine (H2.out _ _ L).mono ?_; rintro e W5 ⟨⟨u, rfl⟩, S5⟩)
  exact bodyPost_ret (v := .nilIface) (by simp [results, Try.results32, go_sem]) rfl ⟨rfl, S5⟩
set_option maxHeartbeats 8000000 in
set_option maxRecDepth 100000 in
theorem c31_b (w0 : World) (g b n cap : Nat) (acc : List S63) (pos p q r : Int) (hr : p - 1 = r) (hq : pos + 1 = q) (hpos : 0 ≤ pos) (hlt : pos < r) (hp : p ≤ 1099511627777) (i1 : Int) (k : Nat) (hk : i1 = (k : Int)) (hi1 : (n : Int) - 1 = i1) (hl : n ≤ 4000000) (W : World) (S : BS w0 g (.slice (some ⟨b, 0, none⟩) n cap) acc p W) :
    Calls Try.prog 31 #[.pointer (some ⟨g, 0, none⟩), .int .i64 pos] W fun e w' => e = .returned .nilIface ∧ BS w0 g (.slice (some ⟨b, 0, none⟩) n cap) (acc.set k ⟨q, (acc.getD k z63).f1⟩) 0 w' := by
  have t0 : decide (pos < 0) = false := decide_eq_false (by omega)
  have t1 : (r == -1) = false := beq_false_of_ne (by omega)
  have t2 : decide (pos ≥ r) = false := decide_eq_false (by omega)
  have H : Hid (∀ W, BS w0 g (.slice (some ⟨b, 0, none⟩) n cap) acc p W → Calls Try.prog 48 #[.pointer (some ⟨g, 0, none⟩)] W fun e w' => e = .returned (.int .i64 r) ∧ BS w0 g (.slice (some ⟨b, 0, none⟩) n cap) acc p w') := Lib.hid (fun W S => c48' w0 g _ acc p r hr W S (by omega) (by omega))
  have H2 : Hid (∀ W acc, BS w0 g (.slice (some ⟨b, 0, none⟩) n cap) acc p W → Calls Try.prog 49 #[.pointer (some ⟨g, 0, none⟩), .int .i64 (-1)] W fun e w' => (∃ u, e = .returned u) ∧ BS w0 g (.slice (some ⟨b, 0, none⟩) n cap) acc 0 w') := Lib.hid (fun W acc S => c49' w0 g _ acc p (-1) 0 rfl W S (by omega) (by omega))
  have s1 : wrap64 (pos + 1) = q := by rw [w64' _ (by omega) (by omega)]; exact hq
  have s2 : wrap64 i1 = i1 := w64' _ (by omega) (by omega)
  have z2 : ((0 : Int) ≤ i1) = True := eq_true (by omega)
  have z3 : (i1 < (n : Int)) = True := eq_true (by omega)
  have ek : i1.toNat = k := by omega
  have HN := Lib.hid (show k < n by omega)
  clear hq hpos hlt hp hl hr hk
  go_enter Try.func31, Try.ntmps31
  go_upto_region 7 with (first
    | (go_at_call 48; refine (H.out _ S).mono ?_; rintro e W1 ⟨rfl, S1⟩; clear S)
    | (go_at_call 48; refine (H.out _ S1).mono ?_; rintro e W2 ⟨rfl, S2⟩; clear S1))
  refine start_ (n := 15) (S := fun w' => w'.cell? ⟨g, 0, none⟩ = some (.slice (some ⟨b, 0, none⟩) n cap)) (ds := [14]) #[false, false, false, false, false, false, false, false, false, false, false, false, false, false, false] (by kernel_rfl) rfl rfl ((S2.call (below_drew1 (Below.refl _ _))).k0) (fun hHeld => ?_)
  have S3 := S2.call (below_drew1 (Below.refl _ _))
  clear S2
  generalize W2.drew = Wd at *
  refine pure_ (i := 0) (N := some 16) (v := ?_) (a' := ?_) #[true, false, false, false, false, false, false, false, false, false, false, false, false, false, false] rfl rfl (by kernel_rfl) (fun _ _ _ h => h) (Or.inl ⟨by rfl, ?_⟩) ?_ ?_
  rotate_left
  · intro w'
    go_simp
    first | done | with_reducible rfl | rfl
  rotate_left
  · simp only [Act.put, List.setIfInBounds_toArray, List.set_cons_zero, List.set_cons_succ, i64_w, i32_w]
    rfl
  refine pure_ (i := 1) (N := some 17) (v := ?_) (a' := ?_) #[true, true, false, false, false, false, false, false, false, false, false, false, false, false, false] rfl rfl (by kernel_rfl) (fun _ _ _ h => h) (Or.inl ⟨by rfl, ?_⟩) ?_ ?_
  rotate_left
  · intro w'
    go_simp
    first | done | with_reducible rfl | rfl
  rotate_left
  · simp only [Act.put, List.setIfInBounds_toArray, List.set_cons_zero, List.set_cons_succ, i64_w, i32_w]
    rfl
  refine pure_ (i := 2) (N := some 18) (v := ?_) (a' := ?_) #[true, true, true, false, false, false, false, false, false, false, false, false, false, false, false] rfl rfl (by kernel_rfl) (fun _ _ _ h => h) (Or.inl ⟨by rfl, ?_⟩) ?_ ?_
  rotate_left
  · intro w'
    go_simp
    first | done | with_reducible rfl | rfl
  rotate_left
  · simp only [Act.put, List.setIfInBounds_toArray, List.set_cons_zero, List.set_cons_succ, i64_w, i32_w]
    rfl
  refine take_ (i := 3) (N := some 19) (v := ?_) (a' := ?_) #[true, true, true, true, false, false, false, false, false, false, false, false, false, false, false] rfl rfl (by kernel_rfl) (fun _ _ _ h => h) (Or.inl ⟨by rfl, ?_⟩) hHeld ?_ ?_
  rotate_left
  · rintro w' s0
    go_simp
    with_reducible rfl
  rotate_left
  · simp only [Act.put, List.setIfInBounds_toArray, List.set_cons_zero, List.set_cons_succ, i64_w, i32_w]
    rfl
  refine pure_ (i := 4) (N := some 20) (v := ?_) (a' := ?_) #[true, true, true, true, true, false, false, false, false, false, false, false, false, false, false] rfl rfl (by kernel_rfl) (fun _ _ _ h => h) (Or.inl ⟨by rfl, ?_⟩) ?_ ?_
  rotate_left
  · intro w'
    go_simp
    first | done | with_reducible rfl | rfl
  rotate_left
  · simp only [Act.put, List.setIfInBounds_toArray, List.set_cons_zero, List.set_cons_succ, i64_w, i32_w]
    rfl
  refine pure_ (i := 5) (N := some 21) (v := ?_) (a' := ?_) #[true, true, true, true, true, true, false, false, false, false, false, false, false, false, false] rfl rfl (by kernel_rfl) (fun _ _ _ h => h) (Or.inl ⟨by rfl, ?_⟩) ?_ ?_
  rotate_left
  · intro w'
    go_simp
    first | done | with_reducible rfl | rfl
  rotate_left
  · simp only [Act.put, List.setIfInBounds_toArray, List.set_cons_zero, List.set_cons_succ, i64_w, i32_w]
    rfl
  refine pure_ (i := 6) (N := some 22) (v := ?_) (a' := ?_) #[true, true, true, true, true, true, true, false, false, false, false, false, false, false, false] rfl rfl (by kernel_rfl) (fun _ _ _ h => h) (Or.inl ⟨by rfl, ?_⟩) ?_ ?_
  rotate_left
  · intro w'
    go_simp
    first | done | with_reducible rfl | rfl
  rotate_left
  · simp only [Act.put, List.setIfInBounds_toArray, List.set_cons_zero, List.set_cons_succ, i64_w, i32_w]
    rfl
  refine take_ (i := 7) (N := some 23) (v := ?_) (a' := ?_) #[true, true, true, true, true, true, true, true, false, false, false, false, false, false, false] rfl rfl (by kernel_rfl) (fun _ _ _ h => h) (Or.inl ⟨by rfl, ?_⟩) hHeld ?_ ?_
  rotate_left
  · rintro w' s0
    go_simp
    with_reducible rfl
  rotate_left
  · simp only [Act.put, List.setIfInBounds_toArray, List.set_cons_zero, List.set_cons_succ, i64_w, i32_w]
    rfl
  refine pure_ (i := 8) (N := some 24) (v := ?_) (a' := ?_) #[true, true, true, true, true, true, true, true, true, false, false, false, false, false, false] rfl rfl (by kernel_rfl) (fun _ _ _ h => h) (Or.inl ⟨by rfl, ?_⟩) ?_ ?_
  rotate_left
  · intro w'
    go_simp
    first | done | with_reducible rfl | rfl
  rotate_left
  · simp only [Act.put, List.setIfInBounds_toArray, List.set_cons_zero, List.set_cons_succ, i64_w, i32_w]
    rfl
  refine pure_ (i := 9) (N := some 25) (v := ?_) (a' := ?_) #[true, true, true, true, true, true, true, true, true, true, false, false, false, false, false] rfl rfl (by kernel_rfl) (fun _ _ _ h => h) (Or.inl ⟨by rfl, ?_⟩) ?_ ?_
  rotate_left
  · intro w'
    go_simp
    first | done | with_reducible rfl | rfl
  rotate_left
  · simp only [Act.put, List.setIfInBounds_toArray, List.set_cons_zero, List.set_cons_succ, i64_w, i32_w]
    rfl
  refine pure_ (i := 10) (N := some 26) (v := ?_) (a' := ?_) #[true, true, true, true, true, true, true, true, true, true, true, false, false, false, false] rfl rfl (by kernel_rfl) (fun _ _ _ h => h) (Or.inl ⟨by rfl, ?_⟩) ?_ ?_
  rotate_left
  · intro w'
    go_simp
    first | done | with_reducible rfl | rfl
  rotate_left
  · simp only [Act.put, List.setIfInBounds_toArray, List.set_cons_zero, List.set_cons_succ, i64_w, i32_w]
    rfl
  refine pure_ (i := 11) (N := some 27) (v := ?_) (a' := ?_) #[true, true, true, true, true, true, true, true, true, true, true, true, false, false, false] rfl rfl (by kernel_rfl) (fun _ _ _ h => h) (Or.inl ⟨by rfl, ?_⟩) ?_ ?_
  rotate_left
  · intro w'
    go_simp
    first | done | with_reducible rfl | rfl
  rotate_left
  · simp only [Act.put, List.setIfInBounds_toArray, List.set_cons_zero, List.set_cons_succ, i64_w, i32_w]
    rfl
  refine pure_ (i := 12) (N := some 28) (v := ?_) (a' := ?_) #[true, true, true, true, true, true, true, true, true, true, true, true, true, false, false] rfl rfl (by kernel_rfl) (fun _ _ _ h => h) (Or.inl ⟨by rfl, ?_⟩) ?_ ?_
  rotate_left
  · intro w'
    go_simp
    first | done | with_reducible rfl | rfl
  rotate_left
  · simp only [Act.put, List.setIfInBounds_toArray, List.set_cons_zero, List.set_cons_succ, i64_w, i32_w]
    rfl
  refine pure_ (i := 13) (N := some 29) (v := ?_) (a' := ?_) #[true, true, true, true, true, true, true, true, true, true, true, true, true, true, false] rfl rfl (by kernel_rfl) (fun _ _ _ h => h) (Or.inl ⟨by rfl, ?_⟩) ?_ ?_
  rotate_left
  · intro w'
    go_simp
    first | done | with_reducible rfl | rfl
  rotate_left
  · simp only [Act.put, List.setIfInBounds_toArray, List.set_cons_zero, List.set_cons_succ, i64_w, i32_w]
    rfl
  have L := S3.low k HN.out q
  obtain ⟨_, _, x0, fx⟩ := RT.low S3.rt k HN.out q
  refine last_ (i := 14) (N := none) #[true, true, true, true, true, true, true, true, true, true, true, true, true, true, true] rfl rfl (by kernel_rfl) (by decide) (fun K hK => ?_)
  refine skip_ (w1 := Wd.setCell ⟨b, k * 2, none⟩ (.int .i64 q)) (by rfl) rfl ?_ ?_
  · go_simp
  refine hK.out _ _ ?_
  clear hK K hHeld
  refine done_ (by kernel_rfl) ?_
  go_wp2_with (go_at_call 49; refine (H2.out _ _ L).mono ?_; rintro e W5 ⟨⟨u, rfl⟩, S5⟩)
  exact bodyPost_ret (v := .nilIface) (by simp [results, Try.results31, go_sem]) rfl ⟨rfl, S5⟩
end Go.Proofs.Ytmfffeoodlmnbaa.Bu
