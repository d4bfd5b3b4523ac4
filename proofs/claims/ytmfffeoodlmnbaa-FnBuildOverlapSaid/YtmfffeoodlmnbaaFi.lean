/- The builder: Finish. The walk. -/
import Derived.Test.YtmfffeoodlmnbaaBu
import Derived.Test.YtmfffeoodlmnbaaRe
import Derived.Test.YtmfffeoodlmnbaaC3
namespace Go.Proofs.Ytmfffeoodlmnbaa.Fi
set_option linter.unusedSimpArgs false
set_option linter.unusedVariables false
open Go.RowKit Go.Proofs.YtmfffeoodlmnbaaW.PrintWords Go.Proofs.YtmfffeoodlmnbaaW.PrintLast Go.Proofs.YtmfffeoodlmnbaaW.PrintMore Go.Proofs.Ytmfffeoodlmnbaa.Kit Go.Proofs.Ytmfffeoodlmnbaa.Sp Go.Proofs.Ytmfffeoodlmnbaa.Se Go.Proofs.Ytmfffeoodlmnbaa.In Go.Proofs.Ytmfffeoodlmnbaa.Iv Go.Proofs.Ytmfffeoodlmnbaa.Vp Go.Proofs.Ytmfffeoodlmnbaa.Ov Go.Proofs.Ytmfffeoodlmnbaa.Mi Go.Proofs.Ytmfffeoodlmnbaa.Mr Go.Proofs.Ytmfffeoodlmnbaa.Pj Go.Proofs.Ytmfffeoodlmnbaa.Bu Go.Proofs.Ytmfffeoodlmnbaa.Re Go.Proofs.Ytmfffeoodlmnbaa.C3
set_option maxHeartbeats 8000000 in
theorem c50_0 (A : Option Addr) (c : Nat) (W : World) :
    Calls Try.prog 50 #[.slice A 0 c] W fun e w' => (∃ u, e = .returned u) ∧ w' = W := by
  have s0 : wrap64 (-1) = -1 := w64' _ (by omega) (by omega)
  go_enter Try.func50, Try.ntmps50
  go_wp2_with fail
  go_loopw [2, 3] (fun x y wr => x = .int .i64 0 ∧ y = .int .i64 (-1) ∧ wr = W) (fun _ _ _ => 0)
  case atStart => exact ⟨rfl, rfl, rfl⟩
  case round =>
    obtain ⟨rfl, rfl, rfl⟩ := hrel
    go_wp2
    exact bodyPost_end (v := .tuple #[]) (by simp [results, Try.results50, go_sem]) rfl ⟨⟨_, rfl⟩, rfl⟩
set_option maxHeartbeats 8000000 in
theorem c33 (w0 : World) (g b n cap : Nat) (acc : List S63) (p : Int) (W : World) (S : BS w0 g (.slice (some ⟨b, 0, none⟩) n cap) acc p W) (hn : acc.length = n) (h0 : 0 < n) (hl : n ≤ 4000000) (lo : Int) (hg : Gap lo (acc.reverse.map sp)) :
    Calls Try.prog 33 #[.pointer (some ⟨g, 0, none⟩)] W fun e w' => e = .returned (.tuple #[.slice (some ⟨b, 0, none⟩) n cap, .nilIface]) ∧ RT w0 w' (.slice (some ⟨b, 0, none⟩) n cap) acc.reverse ∧ Below w0.heap.size w0 w' := by
  have hb : w0.heap.size ≤ b := Kd.R_base S.rt b (by simp [Value.ownBlock])
  have hgb : g ≠ b := fun e => by have := Kd.R_ne S.rt S.bg (by decide); rw [e] at this; simp [Value.ownBlock] at this
  have H50 := Lib.hid (c50 w0 b n cap acc W hn h0 hl S.rt)
  have H40 : Hid (∀ W', RT w0 W' (.slice (some ⟨b, 0, none⟩) n cap) acc.reverse → Calls Try.prog 40 #[.slice (some ⟨b, 0, none⟩) n cap] W' fun e w' => e = .returned .nilIface ∧ Below W'.heap.size W' w') := Lib.hid (fun W' hr => by
    obtain ⟨q1, q2, q3⟩ := Kd.R_reads' hr
    have e : n = acc.reverse.length := q1
    exact c40 acc.reverse (some ⟨b, 0, none⟩) n cap e.symm (by omega) W' (by rw [← e] at q3; exact q3) lo hg)
  have k0 := S.k0
  have HS := Lib.hid S
  clear hn h0 hl hg S
  go_enter Try.func33, Try.ntmps33
  go_upto_region 2 with (go_at_call 50; refine H50.out.mono ?_; rintro e W1 ⟨⟨u, rfl⟩, r1, o1⟩)
  have g1 := blk_kept HS.out.bg o1.keep hgb
  have k1 : W1.cell? ⟨g, 0, none⟩ = some (.slice (some ⟨b, 0, none⟩) n cap) := (blk_cell g1 0).trans rfl
  have B1 := o1.out HS.out.below HS.out.below.size hb
  clear k0
  go_upto_region 5 with (go_at_call 40; refine (H40.out _ r1).mono ?_; rintro e W2 ⟨rfl, b2⟩)
  have g2 := blk_below g1 b2
  have k2 : W2.cell? ⟨g, 0, none⟩ = some (.slice (some ⟨b, 0, none⟩) n cap) := (blk_cell g2 0).trans rfl
  go_wp2
  exact bodyPost_ret (v := .tuple #[.slice (some ⟨b, 0, none⟩) n cap, .nilIface]) (by simp [results, Try.results33, go_sem]) rfl ⟨rfl, Kd.R_below r1 b2, B1.trans (b2.mono B1.size)⟩
theorem nil63 (W : World) (A : Option Addr) : Kd.C k63 W A 0 [] := ⟨rfl, by omega, fun h => by omega⟩
set_option maxHeartbeats 8000000 in
theorem c33_0 (w0 : World) (g : Nat) (A : Option Addr) (c : Nat) (p : Int) (W : World) (S : BS w0 g (.slice A 0 c) [] p W) :
    Calls Try.prog 33 #[.pointer (some ⟨g, 0, none⟩)] W fun e w' => e = .returned (.tuple #[.slice A 0 c, .nilIface]) ∧ RT w0 w' (.slice A 0 c) [] ∧ Below w0.heap.size w0 w' := by
  have H50 := Lib.hid (c50_0 A c W)
  have H40 : Hid (∀ W', Calls Try.prog 40 #[.slice A 0 c] W' fun e w' => e = .returned .nilIface ∧ Below W'.heap.size W' w') := Lib.hid (fun W' => c40 [] A 0 c rfl (by omega) W' (nil63 W' A) 0 trivial)
  have k0 := S.k0
  have HS := Lib.hid S
  clear S
  go_enter Try.func33, Try.ntmps33
  go_upto_region 5 with (first
    | (go_at_call 50; refine H50.out.mono ?_; rintro e W1 ⟨⟨u, rfl⟩, rfl⟩)
    | (go_at_call 40; refine (H40.out _).mono ?_; rintro e W2 ⟨rfl, b2⟩))
  have S2 := HS.out.call b2
  have k2 := S2.k0
  go_wp2
  exact bodyPost_ret (v := .tuple #[.slice A 0 c, .nilIface]) (by simp [results, Try.results33, go_sem]) rfl ⟨rfl, S2.rt, S2.below⟩
end Go.Proofs.Ytmfffeoodlmnbaa.Fi
