/- The values' own types of this seat (spans, intervals, events), as print.sh writes them, for all laws at once. -/
import Derived.Test.YtmfffeoodlmnbaaProg
import Derived.Below
import Derived.Deep.Draws
import Derived.Deep.AppendLies
import Derived.Maps.AppendAt
import Derived.OwnWalk
import Derived.Laws.BytesArg
import Derived.Laws.MakeOwn
import Derived.Laws.OwnMore
import Derived.Deep.OwnRows
import Derived.Tactics
import Derived.Lib.ConvBytes
import Derived.Laws.Slices
import Derived.WalkKit
import Derived.KernelRfl
import Derived.RowKit3
import Derived.Deep.LoopGhost
import Derived.Deep.QuietTactic
import Derived.BigQuiet
import Derived.WideLaws
import Derived.Deep.DeepCutAuto
import Derived.Deep.CutBlock
import Derived.Deep.RegionHeld3
import Derived.Laws.Rows
import Derived.Lib.AppendStr
import Derived.ArgAppend
import Derived.Laws.IdiomCopy
import Derived.OrdersHeld
import Derived.Laws.BitsLemmas
import Derived.RowKit
import Derived.Test.YtmfffeoodlmnbaaWWords
import Derived.Test.YtmfffeoodlmnbaaWLast
import Derived.Test.YtmfffeoodlmnbaaWTab
import Derived.Test.YtmfffeoodlmnbaaWFour
import Derived.Test.YtmfffeoodlmnbaaWQPut
import Derived.Test.YtmfffeoodlmnbaaWApart
import Derived.Test.YtmfffeoodlmnbaaWArr
import Derived.Test.YtmfffeoodlmnbaaWZeros
import Derived.Test.YtmfffeoodlmnbaaWFoot
import Derived.Test.YtmfffeoodlmnbaaWKept
import Derived.Test.YtmfffeoodlmnbaaWShare
import Derived.Test.YtmfffeoodlmnbaaWN
import Derived.Test.YtmfffeoodlmnbaaWFootNe
import Derived.Test.YtmfffeoodlmnbaaWAt
import Derived.Test.YtmfffeoodlmnbaaWEqStruct
import Derived.Test.YtmfffeoodlmnbaaWRepsOne
import Derived.Test.YtmfffeoodlmnbaaWInv
import Derived.Test.YtmfffeoodlmnbaaWInvWords
import Derived.Test.YtmfffeoodlmnbaaWGuard
import Derived.Test.YtmfffeoodlmnbaaWNEv
import Derived.Test.YtmfffeoodlmnbaaWMore
namespace Go.Proofs.Ytmfffeoodlmnbaa.Sp
open Go.RowKit Go.Proofs.YtmfffeoodlmnbaaW.PrintWords Go.Proofs.YtmfffeoodlmnbaaW.PrintLast Go.Proofs.YtmfffeoodlmnbaaW.PrintMore
attribute [local go_sem] max2_int min2_int max_two min_two max_three min_three max_four min_four
set_option linter.unusedVariables false
set_option linter.unusedSimpArgs false
def errW : Option Int → Value
  | none => .nilIface
  | some c => .iface 0 (.int .i64 c)
theorem errW_none : errW none = .nilIface := rfl
theorem errW_some (c : Int) : errW (some c) = .iface 0 (.int .i64 c) := rfl

theorem info39 : (Try.prog.info? 39).map (fun i => (i.zero, i.size, i.bytes)) = some (some (.agg #[(.int .i64 0), (.int .i64 0)]), 2, 16) := by kernel_rfl
theorem info63 : (Try.prog.info? 63).map (fun i => (i.zero, i.size, i.bytes)) = some (some (.agg #[(.int .i64 0), (.int .i64 0)]), 2, 16) := by kernel_rfl
-- the values' own types
/-! #### struct type 39 -/
structure S39 where
  f0 : Int
  f1 : Int
def z39 : S39 := ⟨(0 : Int), (0 : Int)⟩
def k39 : Kd S39 := Kd.iso (Kd.pair (Kd.int .i64) (Kd.int .i64)) (fun x : S39 => (x.f0, x.f1))
theorem k39_open {w : World} {x : S39} {cs : List Value} (h : k39.K w x cs) : cs = [.int .i64 x.f0, .int .i64 x.f1] := by
  obtain ⟨_, _, rfl, rfl, rfl⟩ := h
  exact rfl
theorem k39_openM {w : World} {base : Nat} {ok : Nat → Prop} {x : S39} {cs : List Value} (h : k39.M w base ok x cs) : cs = [.int .i64 x.f0, .int .i64 x.f1] := by
  obtain ⟨_, _, rfl, rfl, rfl⟩ := h
  exact rfl
theorem k39_mk (w : World) (x : S39)  : k39.K w x [.int .i64 x.f0, .int .i64 x.f1] := ⟨[.int .i64 x.f0], [.int .i64 x.f1], rfl, rfl, rfl⟩
theorem k39_mkM (w : World) (base : Nat) (ok : Nat → Prop) (x : S39)  : k39.M w base ok x [.int .i64 x.f0, .int .i64 x.f1] := ⟨[.int .i64 x.f0], [.int .i64 x.f1], rfl, rfl, rfl⟩
def rd_T39 (xs : List S39) (i : Int) : S39 := xs.getD i.toNat z39
theorem at_T39 {w : World} {A : Option Addr} {n : Nat} {xs : List S39} (h : Kd.C k39 w A n xs) (i : Int) (h0 : 0 ≤ i) (h1 : i < n) : ∃ ad , A = some ad ∧ w.cell? (ad.add (i.toNat * 2)) = some (.int .i64 (rd_T39 xs i).f0) ∧ w.cell? ⟨(ad.add (i.toNat * 2)).block, (ad.add (i.toNat * 2)).off + 1, none⟩ = some (.int .i64 (rd_T39 xs i).f1) := by
  obtain ⟨ad, c, e, _, hK, hc0⟩ := Kd.C_get h z39 i h0 h1
  have hc : ∀ j u, c[j]? = some u → w.cell? (ad.add (i.toNat * 2 + j)) = some u := hc0
  obtain rfl := k39_open hK
  exact ⟨ad, e, hc 0 _ rfl, by rw [← add_field _ _ 1 (by omega)]; exact hc 1 _ rfl⟩

/-! #### struct type 63 -/
structure S63 where
  f0 : Int
  f1 : Int
def z63 : S63 := ⟨(0 : Int), (0 : Int)⟩
def k63 : Kd S63 := Kd.iso (Kd.pair (Kd.int .i64) (Kd.int .i64)) (fun x : S63 => (x.f0, x.f1))
theorem k63_open {w : World} {x : S63} {cs : List Value} (h : k63.K w x cs) : cs = [.int .i64 x.f0, .int .i64 x.f1] := by
  obtain ⟨_, _, rfl, rfl, rfl⟩ := h
  exact rfl
theorem k63_openM {w : World} {base : Nat} {ok : Nat → Prop} {x : S63} {cs : List Value} (h : k63.M w base ok x cs) : cs = [.int .i64 x.f0, .int .i64 x.f1] := by
  obtain ⟨_, _, rfl, rfl, rfl⟩ := h
  exact rfl
theorem k63_mk (w : World) (x : S63)  : k63.K w x [.int .i64 x.f0, .int .i64 x.f1] := ⟨[.int .i64 x.f0], [.int .i64 x.f1], rfl, rfl, rfl⟩
theorem k63_mkM (w : World) (base : Nat) (ok : Nat → Prop) (x : S63)  : k63.M w base ok x [.int .i64 x.f0, .int .i64 x.f1] := ⟨[.int .i64 x.f0], [.int .i64 x.f1], rfl, rfl, rfl⟩
def rd_T63 (xs : List S63) (i : Int) : S63 := xs.getD i.toNat z63
theorem at_T63 {w : World} {A : Option Addr} {n : Nat} {xs : List S63} (h : Kd.C k63 w A n xs) (i : Int) (h0 : 0 ≤ i) (h1 : i < n) : ∃ ad , A = some ad ∧ w.cell? (ad.add (i.toNat * 2)) = some (.int .i64 (rd_T63 xs i).f0) ∧ w.cell? ⟨(ad.add (i.toNat * 2)).block, (ad.add (i.toNat * 2)).off + 1, none⟩ = some (.int .i64 (rd_T63 xs i).f1) := by
  obtain ⟨ad, c, e, _, hK, hc0⟩ := Kd.C_get h z63 i h0 h1
  have hc : ∀ j u, c[j]? = some u → w.cell? (ad.add (i.toNat * 2 + j)) = some u := hc0
  obtain rfl := k63_open hK
  exact ⟨ad, e, hc 0 _ rfl, by rw [← add_field _ _ 1 (by omega)]; exact hc 1 _ rfl⟩

/-! #### struct type 32 -/
structure S32 where
  f0 : Int
  f1 : Bool
def z32 : S32 := ⟨(0 : Int), false⟩
def k32 : Kd S32 := Kd.iso (Kd.pair (Kd.int .i64) Kd.bool) (fun x : S32 => (x.f0, x.f1))
theorem k32_open {w : World} {x : S32} {cs : List Value} (h : k32.K w x cs) : cs = [.int .i64 x.f0, .bool x.f1] := by
  obtain ⟨_, _, rfl, rfl, rfl⟩ := h
  exact rfl
theorem k32_openM {w : World} {base : Nat} {ok : Nat → Prop} {x : S32} {cs : List Value} (h : k32.M w base ok x cs) : cs = [.int .i64 x.f0, .bool x.f1] := by
  obtain ⟨_, _, rfl, rfl, rfl⟩ := h
  exact rfl
theorem k32_mk (w : World) (x : S32)  : k32.K w x [.int .i64 x.f0, .bool x.f1] := ⟨[.int .i64 x.f0], [.bool x.f1], rfl, rfl, rfl⟩
theorem k32_mkM (w : World) (base : Nat) (ok : Nat → Prop) (x : S32)  : k32.M w base ok x [.int .i64 x.f0, .bool x.f1] := ⟨[.int .i64 x.f0], [.bool x.f1], rfl, rfl, rfl⟩
def rd_T32 (xs : List S32) (i : Int) : S32 := xs.getD i.toNat z32
theorem at_T32 {w : World} {A : Option Addr} {n : Nat} {xs : List S32} (h : Kd.C k32 w A n xs) (i : Int) (h0 : 0 ≤ i) (h1 : i < n) : ∃ ad , A = some ad ∧ w.cell? (ad.add (i.toNat * 2)) = some (.int .i64 (rd_T32 xs i).f0) ∧ w.cell? ⟨(ad.add (i.toNat * 2)).block, (ad.add (i.toNat * 2)).off + 1, none⟩ = some (.bool (rd_T32 xs i).f1) := by
  obtain ⟨ad, c, e, _, hK, hc0⟩ := Kd.C_get h z32 i h0 h1
  have hc : ∀ j u, c[j]? = some u → w.cell? (ad.add (i.toNat * 2 + j)) = some u := hc0
  obtain rfl := k32_open hK
  exact ⟨ad, e, hc 0 _ rfl, by rw [← add_field _ _ 1 (by omega)]; exact hc 1 _ rfl⟩

end Go.Proofs.Ytmfffeoodlmnbaa.Sp
