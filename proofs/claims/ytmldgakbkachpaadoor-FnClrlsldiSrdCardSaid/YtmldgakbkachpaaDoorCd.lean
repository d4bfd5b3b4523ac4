/- mkCode: the value of a rotate and a mask of 32 bits, by three numbers; and what the mask does to a word. The walks, over the tables that the library lays. -/
import Derived.Test.YtmldgakbkachpaaDoorMk
namespace Go.Proofs.YtmldgakbkachpaaDoor.Cd
open Go.RowKit Go.Proofs.YtmldgakbkachpaaDoorW.PrintWords Go.Proofs.YtmldgakbkachpaaDoorW.PrintLast Go.Proofs.YtmldgakbkachpaaDoorW.PrintMore Go.Proofs.YtmldgakbkachpaaDoor.Kit Go.Proofs.YtmldgakbkachpaaDoor.Sp Go.Proofs.YtmldgakbkachpaaDoor.Wd Go.Proofs.YtmldgakbkachpaaDoor.En Go.Proofs.YtmldgakbkachpaaDoor.De Go.Proofs.YtmldgakbkachpaaDoor.Gd Go.Proofs.YtmldgakbkachpaaDoor.Lw Go.Proofs.YtmldgakbkachpaaDoor.Mk
/-- the mask between two numbers. -/
def mkm (p q : Nat) : Nat := rn (31 - max p q) (max p q - min p q + 1)
theorem mkm_ok (p q : Nat) (hp : p < 32) (hq : q < 32) : ok (mkm p q) = true := (run_ok _ _ (by omega) (by omega)).1
theorem mkm_pos (p q : Nat) : 0 < mkm p q := rn_pos _ _ (by omega)
theorem mkm_lt (p q : Nat) (hp : p < 32) (hq : q < 32) : mkm p q < 4294967296 := rn_lt32 _ _ (by omega)
theorem mkMask_any (a b : Int) (p q : Nat) (ha : a % 32 = p) (hb : b % 32 = q) : laws_mkMask.f 70 a b = some (mkm p q : Int) := by
  unfold laws_mkMask.f
  rw [rw_some a 32 (by decide) (by decide), rw_some b 32 (by decide) (by decide), Option.bind_some, Option.bind_some, ha, hb, wu64 (by omega) (by omega), wu64 (by omega) (by omega)]
  have e1 : mn (p : Int) (q : Int) = ((min p q : Nat) : Int) := by unfold mn; split <;> omega
  have e2 : mx (p : Int) (q : Int) = ((max p q : Nat) : Int) := by unfold mx; split <;> omega
  rw [e1, e2, mask32 (min p q) (max p q) (by omega) (by omega), Option.bind_some, if_pos (by omega)]
  rfl
theorem mkDoes_any (c a b : Int) (r p q x : Nat) (hc : c % 32 = r) (ha : a % 32 = p) (hb : b % 32 = q) : laws_mkDoes.f 70 c a b (x : Int) = some ((rot 32 (x % 4294967296) r &&& mkm p q : Nat) : Int) := by
  unfold laws_mkDoes.f
  rw [rw_some c 32 (by decide) (by decide), Option.bind_some, mkMask_any a b p q ha hb, Option.bind_some, hc, wu64 (by omega) (by omega), rotated_32 x r (mkm p q) (by omega) (mkm_lt p q (by omega) (by omega)), Option.bind_some]
/-- impl.EncodeRotateMask. -/
theorem c35 (r m : Nat) (hr : r < 32) (hm : 0 < m) (hm' : m < 4294967296) (w : World) (hT : Tabs w) :
    Calls Tryd.prog 35 #[.int .i64 r, .int .i64 m, .int .i64 32] w fun e w' => e = .returned (.int .i64 (cd r m : Nat)) ∧ w' = w := by
  have H := Lib.hid (enc_of r m hr hm hm' w hT)
  clear hT hr hm hm'
  go_enter Tryd.func35, Tryd.ntmps35
  go_wp2_with (go_at_call 47; refine H.out.mono ?_; rintro e w' ⟨rfl, rfl⟩)
  go_ret
  exact ⟨rfl, rfl⟩
theorem c18 (r m : Nat) (hr : r < 32) (hm : 0 < m) (hm' : m < 4294967296) (w : World) (hT : Tabs w) :
    Calls Tryd.prog 18 #[.int .i64 r, .int .i64 m, .int .i64 32] w fun e w' => e = .returned (.int .i64 (cd r m : Nat)) ∧ w' = w := by
  have H := Lib.hid (c35 r m hr hm hm' w hT)
  clear hT hr hm hm'
  go_enter Tryd.func18, Tryd.ntmps18
  go_wp2_with (go_at_call 35; refine H.out.mono ?_; rintro e w' ⟨rfl, rfl⟩)
  go_ret
  exact ⟨rfl, rfl⟩
theorem tabs_below {w w' : World} (hT : Tabs w) (hb : Below w.heap.size w w') : Tabs w' :=
  ⟨fun j hj => (hb.cell (World.block_lt_of_cell? w _ (hT.1 j hj))).trans (hT.1 j hj), fun j hj => (hb.cell (World.block_lt_of_cell? w _ (hT.2 j hj))).trans (hT.2 j hj)⟩
theorem c22 (c a b : Int) (r p q : Nat) (hc : c % 32 = r) (ha : a % 32 = p) (hb : b % 32 = q) (w : World) (hT : Tabs w) :
    Calls Tryd.prog 22 #[.int .i64 c, .int .i64 a, .int .i64 b] w fun e w' => e = .returned (.int .i64 (cd r (mkm p q) : Nat)) ∧ Below w.heap.size w w' := by
  have rc := rw_some c 32 (by decide) (by decide)
  rw [hc] at rc
  have RC := Lib.hid rc
  have RM := Lib.hid (mkMask_any a b p q ha hb)
  have hw : wrap64 (mkm p q : Nat) = (mkm p q : Nat) := w64 (by omega) (by have := mkm_lt p q (by omega) (by omega); omega)
  have HE : Hid (∀ w, Tabs w → Calls Tryd.prog 18 #[.int .i64 r, .int .i64 (wrap64 (mkm p q : Nat)), .int .i64 32] w fun e w' => e = .returned (.int .i64 (cd r (mkm p q) : Nat)) ∧ w' = w) := Lib.hid (fun w hT => by rw [hw]; exact c18 r (mkm p q) (by omega) (mkm_pos p q) (mkm_lt p q (by omega) (by omega)) w hT)
  have HT := Lib.hid hT
  clear rc hw hT hc ha hb
  generalize mkm p q = m at *
  go_enter Tryd.func22, Tryd.ntmps22
  go_wp2_with fail
  refine (laws_rwAt.calls _ _ _ _ RC.out).mono ?_
  rintro e w' ⟨rfl, ⟨n1, rfl⟩⟩
  go_wp2_with fail
  refine (laws_mkMask.calls 70 _ _ _ _ RM.out).mono ?_
  rintro e w1 ⟨rfl, hb⟩
  have HT1 := Lib.hid (tabs_below (w := w.drewN n1) HT.out hb)
  have HB := Lib.hid hb
  clear hb HT
  go_wp2_with (go_at_call 18; (with_reducible refine (HE.out _ HT1.out).mono ?_); rintro e w' ⟨rfl, rfl⟩)
  go_ret
  exact ⟨rfl, (pw_below_drewN (Below.refl _ _) _).trans HB.out⟩
end Go.Proofs.YtmldgakbkachpaaDoor.Cd
