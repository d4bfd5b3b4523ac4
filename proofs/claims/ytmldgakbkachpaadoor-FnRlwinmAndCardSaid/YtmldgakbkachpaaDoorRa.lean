/- FnRlwinmAnd: a rotate and mask behind a mask, as one operation, does the same to all words, for every input, over the tables that the library lays; no other condition. The walks. -/
import Derived.Test.YtmldgakbkachpaaDoorMv
namespace Go.Proofs.YtmldgakbkachpaaDoor.Ra
open Go.RowKit Go.Proofs.YtmldgakbkachpaaDoorW.PrintWords Go.Proofs.YtmldgakbkachpaaDoorW.PrintLast Go.Proofs.YtmldgakbkachpaaDoorW.PrintMore Go.Proofs.YtmldgakbkachpaaDoor.Kit Go.Proofs.YtmldgakbkachpaaDoor.Sp Go.Proofs.YtmldgakbkachpaaDoor.Wd Go.Proofs.YtmldgakbkachpaaDoor.En Go.Proofs.YtmldgakbkachpaaDoor.De Go.Proofs.YtmldgakbkachpaaDoor.Gd Go.Proofs.YtmldgakbkachpaaDoor.Lw Go.Proofs.YtmldgakbkachpaaDoor.Mk Go.Proofs.YtmldgakbkachpaaDoor.Cd Go.Proofs.YtmldgakbkachpaaDoor.Mv
theorem shl32_nat (x i : Nat) (h : i ≤ 32) : shl .u32 (x : Int) (i : Int) = ((x * 2 ^ i % 4294967296 : Nat) : Int) := by
  unfold shl
  rw [Int.toNat_natCast, Nat.min_eq_left (show i ≤ IntKind.u32.bits from h)]
  have : ∀ z : Int, IntKind.u32.wrap z = z % 4294967296 := fun z => by simp [IntKind.wrap, IntKind.bits, IntKind.signed]
  rw [this]
  simp
theorem shr32_nat (x i : Nat) (h : i ≤ 32) : shr .u32 (x : Int) (i : Int) = ((x / 2 ^ i : Nat) : Int) := by
  unfold shr
  rw [Int.toNat_natCast, Nat.min_eq_left (show i ≤ IntKind.u32.bits from h)]
  simp
theorem and31 (a : Nat) (ha : a < 32) : Go.bits .and .u64 (IntKind.u64.wrap (a : Int)) 31 = (a : Int) := by
  rw [wu64 (by omega) (by omega)]
  have := bits_and_u64n a 31 (by omega) (by decide)
  rw [show ((31 : Nat) : Int) = 31 from rfl] at this
  rw [this]
  have := Nat.and_two_pow_sub_one_eq_mod a 5
  rw [show 2 ^ 5 - 1 = 31 by decide, show 2 ^ 5 = 32 by decide] at this
  rw [this, Nat.mod_eq_of_lt ha]
theorem rl32 (x r : Nat) (hx : x < 4294967296) (hr : r < 32) : bits_RotateLeft32.f (x : Int) (r : Int) = some ((rot 32 x r : Nat) : Int) := by
  have M : (2 : Nat) ^ 32 = 4294967296 := by decide
  unfold bits_RotateLeft32.f
  rw [and31 r hr, if_pos (by omega)]
  have e2 : IntKind.u64.wrap (32 - (r : Int)) = ((32 - r : Nat) : Int) := by rw [wu64 (by omega) (by omega)]; omega
  rw [e2, if_pos (by omega), shl32_nat x r (by omega), shr32_nat x (32 - r) (by omega), bits_or_u32n _ _ (Nat.mod_lt _ (by decide)) (Nat.lt_of_le_of_lt (Nat.div_le_self _ _) hx)]
  unfold rot
  rw [M]
def mo (r m q : Nat) : Nat := m &&& rot 32 q r
def v50 (r m q : Nat) : Int := if wr (mo r m q : Nat) = true then (cd r (mo r m q) : Nat) else 0
theorem wr_ok (x : Nat) (hx : x < 4294967296) (h : wr (x : Nat) = true) : ok x = true ∧ 0 < x := by
  have h' := h
  rw [wr_any (x : Int) x (by omega)] at h
  refine ⟨ok_of_wr x hx (of_decide_eq_true h), ?_⟩
  rcases Nat.eq_zero_or_pos x with e | e
  · rw [e] at h'; exact absurd h' (by decide +kernel)
  · exact e
set_option maxHeartbeats 1000000 in
theorem c50 (r m q : Nat) (hr : r < 32) (hok : ok m = true) (hq : q < 4294967296) (w : World) (hT : Tabs w) :
    Calls Tryd.prog 50 #[.int .i64 (cd r m : Nat), .int .u32 (q : Nat)] w fun e w' => e = .returned (.int .i64 (v50 r m q)) ∧ Drawn0 w w' := by
  have hm := ok_lt m hok
  have hrot : rot 32 q r < 4294967296 := by have := rot_lt 32 q r (by simpa using hq); simpa using this
  have hmo : mo r m q < 4294967296 := Nat.lt_of_le_of_lt Nat.and_le_left hm
  have HD := Lib.hid (dec34 r m hr hok)
  have HL := Lib.hid (rl32 q r hq hr)
  have hw : wrap64 (mo r m q : Nat) = (mo r m q : Nat) := w64 (by omega) (by omega)
  have ha : Go.bits .and .u64 (m : Int) (IntKind.u64.wrap ((rot 32 q r : Nat) : Int)) = ((mo r m q : Nat) : Int) := by rw [wu64 (by omega) (by omega)]; exact bits_and_u64n m _ (by omega) (by omega)
  have hr' : (r : Int) < 32 := by omega
  have HT := Lib.hid hT
  unfold v50
  by_cases hwr : wr (mo r m q : Nat) = true
  · rw [if_pos hwr]
    have HW : Hid (wr (wrap64 (Go.bits .and .u64 (m : Int) (IntKind.u64.wrap ((rot 32 q r : Nat) : Int)))) = true) := Lib.hid (by rw [ha, hw]; exact hwr)
    have HE : Hid (∀ w, Tabs w → Calls Tryd.prog 47 #[.int .i64 r, .int .i64 (wrap64 (Go.bits .and .u64 (m : Int) (IntKind.u64.wrap ((rot 32 q r : Nat) : Int)))), .int .i64 32] w fun e w' => e = .returned (.int .i64 (cd r (mo r m q) : Nat)) ∧ w' = w) :=
      Lib.hid (fun w hT => by rw [ha, hw]; exact enc_of r _ hr (wr_ok _ hmo hwr).2 hmo w hT)
    clear hok hq hm hrot hmo hw ha hT hwr hr
    generalize rot 32 q r = q' at *
    generalize cd r m = E at *
    generalize (ends 32 m).1 = mb at *
    go_enter Tryd.func50, Tryd.ntmps50
    go_wp2_with (first
      | (go_at_call 34; refine (HD.out _).mono ?_; rintro e w' ⟨rfl, rfl⟩)
      | (go_at_call 62; (with_reducible refine (bits_RotateLeft32.calls _ _ _ _ HL.out).mono ?_); rintro e w' ⟨rfl, ⟨n1, rfl⟩⟩)
      | (go_at_call 56; refine (word_calls _ _).mono ?_; rintro e w' ⟨rfl, rfl⟩; rw [HW.out])
      | (go_at_call 47; (with_reducible refine (HE.out _ ?hT).mono ?_); (case hT => exact HT.out); rintro e w' ⟨rfl, rfl⟩))
    go_ret
    exact ⟨rfl, ⟨_, rfl⟩⟩
  · rw [if_neg hwr]
    have HW : Hid (wr (wrap64 (Go.bits .and .u64 (m : Int) (IntKind.u64.wrap ((rot 32 q r : Nat) : Int)))) = false) := Lib.hid (by rw [ha, hw]; simpa using hwr)
    clear hok hq hm hrot hmo hw ha hT hwr hr
    generalize rot 32 q r = q' at *
    generalize cd r m = E at *
    generalize (ends 32 m).1 = mb at *
    go_enter Tryd.func50, Tryd.ntmps50
    go_wp2_with (first
      | (go_at_call 34; refine (HD.out _).mono ?_; rintro e w' ⟨rfl, rfl⟩)
      | (go_at_call 62; (with_reducible refine (bits_RotateLeft32.calls _ _ _ _ HL.out).mono ?_); rintro e w' ⟨rfl, ⟨n1, rfl⟩⟩)
      | (go_at_call 56; refine (word_calls _ _).mono ?_; rintro e w' ⟨rfl, rfl⟩; rw [HW.out]))
    go_ret
    exact ⟨rfl, ⟨_, rfl⟩⟩
theorem c39 (r m q : Nat) (hr : r < 32) (hok : ok m = true) (hq : q < 4294967296) (w : World) (hT : Tabs w) :
    Calls Tryd.prog 39 #[.int .i64 (cd r m : Nat), .int .u32 (q : Nat)] w fun e w' => e = .returned (.int .i64 (v50 r m q)) ∧ Drawn0 w w' := by
  have H := Lib.hid (c50 r m q hr hok hq w hT)
  clear hr hok hq hT
  go_enter Tryd.func39, Tryd.ntmps39
  go_wp2_with (go_at_call 50; refine H.out.mono ?_; rintro e w' ⟨rfl, ⟨n1, rfl⟩⟩)
  go_ret
  exact ⟨rfl, ⟨_, rfl⟩⟩
theorem c24 (r m q : Nat) (hr : r < 32) (hok : ok m = true) (hq : q < 4294967296) (w : World) (hT : Tabs w) :
    Calls Tryd.prog 24 #[.int .i64 (cd r m : Nat), .int .u32 (q : Nat)] w fun e w' => e = .returned (.int .i64 (v50 r m q)) ∧ Drawn0 w w' := by
  have H := Lib.hid (c39 r m q hr hok hq w hT)
  clear hr hok hq hT
  go_enter Tryd.func24, Tryd.ntmps24
  go_wp2_with (go_at_call 39; refine H.out.mono ?_; rintro e w' ⟨rfl, ⟨n1, rfl⟩⟩)
  go_ret
  exact ⟨rfl, ⟨_, rfl⟩⟩
/-- the law, a way for a value of 0, a way for another one. -/
theorem law (c a b : Int) (q x r p s : Nat) (e0 : Int) (want : Nat) (hr : c % 32 = r) (hp : a % 32 = p) (hq : b % 32 = s) (hql : q < 4294967296) (hx : x < 18446744073709551616)
    (he : v50 r (mkm p s) q = e0) (hwant : want = rot 32 ((x &&& q) % 4294967296) r &&& mkm p s)
    (hg : e0 ≠ 0 → ∀ w, Calls Tryd.prog 14 #[.int .i64 e0, .int .u64 (x : Nat), .int .u64 (want : Nat)] w fun e w' => e = .returned (.bool true) ∧ Below w.heap.size w w') (W : World) (hT : Tabs W) :
    Calls Tryd.prog 8 #[.int .u32 (q : Nat), .int .i64 c, .int .i64 a, .int .i64 b, .int .u64 (x : Nat)] W fun e W' => e = .returned (.bool true) ∧ Below W.heap.size W W' := by
  have H22 := Lib.hid (fun w hT => c22 c a b r p s hr hp hq w hT)
  have H24 : Hid (∀ w, Tabs w → Calls Tryd.prog 24 #[.int .i64 (cd r (mkm p s) : Nat), .int .u32 (q : Nat)] w fun e w' => e = .returned (.int .i64 e0) ∧ Drawn0 w w') := Lib.hid (fun w hT => by rw [← he]; exact c24 r _ q (by omega) (mkm_ok p s (by omega) (by omega)) hql w hT)
  have ha : Go.bits .and .u64 (x : Int) (IntKind.u64.wrap (q : Int)) = ((x &&& q : Nat) : Int) := by rw [wu64 (by omega) (by omega)]; exact bits_and_u64n x q hx (by omega)
  have HDo : Hid (laws_mkDoes.f 70 c a b (Go.bits .and .u64 (x : Int) (IntKind.u64.wrap (q : Int))) = some (want : Int)) := Lib.hid (by rw [ha, mkDoes_any c a b r p s _ hr hp hq, hwant])
  have HG := Lib.hid hg
  have HT := Lib.hid hT
  clear hr hp hq hql hx he hwant hg ha hT
  generalize cd r (mkm p s) = E at *
  go_enter Tryd.func8, Tryd.ntmps8
  go_wp2_with fail
  refine (H22.out _ HT.out).mono ?_
  rintro e w1 ⟨rfl, hb⟩
  have HT1 := Lib.hid (tabs_below HT.out hb)
  have HB := Lib.hid hb
  clear hb
  go_wp2_with fail
  refine (H24.out _ HT1.out).mono ?_
  rintro e w' ⟨rfl, ⟨n1, rfl⟩⟩
  by_cases h0 : e0 = 0
  · subst h0
    go_wp2_with (go_at_call 13; refine (c13 _).mono ?_; rintro e w' ⟨rfl, rfl⟩)
    go_ret
    exact ⟨by simp, HB.out.trans (pw_below_drewN (Below.refl _ _) _ |>.mono HB.out.size)⟩
  · have hb0 : (e0 == 0) = false := beq_false_of_ne h0
    have HG' := Lib.hid (HG.out h0)
    clear h0
    go_wp2_with (first
      | (go_at_call 13; refine (c13 _).mono ?_; rintro e w' ⟨rfl, rfl⟩)
      | (go_at_call 25; (with_reducible refine (laws_mkDoes.calls 70 _ _ _ _ _ _ HDo.out).mono ?_); rintro e w3 ⟨rfl, hb3⟩; have HB3 := Lib.hid hb3; clear hb3)
      | (go_at_call 14; (with_reducible refine (HG'.out _).mono ?_); rintro e w4 ⟨rfl, hb4⟩; have HB4 := Lib.hid hb4; clear hb4))
    go_ret
    exact ⟨by simp, (HB.out.trans ((pw_below_drewN (Below.refl _ _) _).mono HB.out.size)).trans ((HB3.out.trans (HB4.out.mono HB3.out.size)).mono HB.out.size)⟩
theorem walk (q c a b x : Int) (W : World) (h0 : TabAt 0 Lib.deBruijn32tab W) (h1 : TabAt 1 Lib.deBruijn64tab W) (hq : (Lit.int .u32 q).wf = true) (_ : (Lit.int .i64 c).wf = true) (_ : (Lit.int .i64 a).wf = true) (_ : (Lit.int .i64 b).wf = true) (hx : (Lit.int .u64 x).wf = true) :
    Calls Tryd.prog 8 #[.int .u32 q, .int .i64 c, .int .i64 a, .int .i64 b, .int .u64 x] W fun e W' => e = .returned (.bool true) ∧ Below W.heap.size W W' := by
  obtain ⟨x, rfl, hxl⟩ := wfn hx
  obtain ⟨q, rfl, hql⟩ : ∃ n : Nat, q = n ∧ n < 4294967296 := ⟨q.toNat, by have := wfu32 hq; omega, by have := wfu32 hq; omega⟩
  obtain ⟨r, hr⟩ : ∃ n : Nat, c % 32 = (n : Int) := ⟨(c % 32).toNat, by omega⟩
  obtain ⟨p, hp⟩ : ∃ n : Nat, a % 32 = (n : Int) := ⟨(a % 32).toNat, by omega⟩
  obtain ⟨s, hs⟩ : ∃ n : Nat, b % 32 = (n : Int) := ⟨(b % 32).toNat, by omega⟩
  refine law c a b q x r p s _ _ hr hp hs hql hxl rfl rfl (fun h w => ?_) W ⟨h0, h1⟩
  unfold v50 at h ⊢
  have hm := mkm_lt p s (by omega) (by omega)
  have hmo : mo r (mkm p s) q < 4294967296 := Nat.lt_of_le_of_lt Nat.and_le_left hm
  by_cases hw : wr (mo r (mkm p s) q : Nat) = true
  · rw [if_pos hw]
    have hl : rot 32 ((x &&& q) % 4294967296) r &&& mkm p s < 4294967296 := Nat.lt_of_le_of_lt Nat.and_le_right hm
    have key := rlwinm_and x q (mkm p s) r (by simpa using hql) (by omega) (by simpa using hm)
    rw [show (2 : Nat) ^ 32 = 4294967296 by decide] at key
    exact good_of r _ x _ (by omega) (wr_ok _ hmo hw).1 (by rw [Nat.mod_eq_of_lt hl]; simp only [ite_self]; exact key) w
  · rw [if_neg hw] at h; exact absurd rfl h
end Go.Proofs.YtmldgakbkachpaaDoor.Ra
