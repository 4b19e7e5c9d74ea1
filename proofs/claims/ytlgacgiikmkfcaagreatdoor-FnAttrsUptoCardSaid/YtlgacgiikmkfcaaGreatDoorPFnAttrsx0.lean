-- PRINTED BY print.sh 35421559b90ae4d0a3588c463048766b98c2df88dd9212a6774a882060cdf62d: not written by this session
import Derived.Test.YtlgacgiikmkfcaaGreatDoorProg
import Derived.Below
import Derived.Deep.Draws
import Derived.Deep.AppendLies
import Derived.Maps.AppendAt
import Derived.OwnWalk
import Derived.Laws.BytesArg
import Derived.Laws.MakeOwn
import Derived.Laws.OwnMore
import Derived.Deep.OwnRows
import Derived.Tactics
import Derived.Lib.ConvBytes
import Derived.Laws.Slices
import Derived.WalkKit
import Derived.KernelRfl
import Derived.RowKit3
import Derived.Deep.LoopGhost
import Derived.Deep.QuietTactic
import Derived.BigQuiet
import Derived.WideLaws
import Derived.Deep.DeepCutAuto
import Derived.Deep.CutBlock
import Derived.Deep.RegionHeld3
import Derived.Laws.Rows
import Derived.Lib.AppendStr
import Derived.ArgAppend
import Derived.Laws.IdiomCopy
import Derived.OrdersHeld
import Derived.Laws.BitsLemmas
import Derived.RowKit
import Derived.Test.YtlgacgiikmkfcaaGreatDoorWWords
import Derived.Test.YtlgacgiikmkfcaaGreatDoorWLast
import Derived.Test.YtlgacgiikmkfcaaGreatDoorWTab
import Derived.Test.YtlgacgiikmkfcaaGreatDoorWFour
import Derived.Test.YtlgacgiikmkfcaaGreatDoorWQPut
import Derived.Test.YtlgacgiikmkfcaaGreatDoorWApart
import Derived.Test.YtlgacgiikmkfcaaGreatDoorWArr
import Derived.Test.YtlgacgiikmkfcaaGreatDoorWZeros
import Derived.Test.YtlgacgiikmkfcaaGreatDoorWFoot
import Derived.Test.YtlgacgiikmkfcaaGreatDoorWKept
import Derived.Test.YtlgacgiikmkfcaaGreatDoorWShare
import Derived.Test.YtlgacgiikmkfcaaGreatDoorWN
import Derived.Test.YtlgacgiikmkfcaaGreatDoorWFootNe
import Derived.Test.YtlgacgiikmkfcaaGreatDoorWAt
import Derived.Test.YtlgacgiikmkfcaaGreatDoorWEqStruct
import Derived.Test.YtlgacgiikmkfcaaGreatDoorWRepsOne
import Derived.Test.YtlgacgiikmkfcaaGreatDoorWInv
import Derived.Test.YtlgacgiikmkfcaaGreatDoorWInvWords
import Derived.Test.YtlgacgiikmkfcaaGreatDoorWGuard
import Derived.Test.YtlgacgiikmkfcaaGreatDoorWNEv
import Derived.Test.YtlgacgiikmkfcaaGreatDoorWMore
namespace Go.Proofs.YtlgacgiikmkfcaaGreatDoor.PFnAttrs
open Go.RowKit Go.Proofs.YtlgacgiikmkfcaaGreatDoorW.PrintWords Go.Proofs.YtlgacgiikmkfcaaGreatDoorW.PrintLast Go.Proofs.YtlgacgiikmkfcaaGreatDoorW.PrintMore
attribute [local go_sem] max2_int min2_int max_two min_two max_three min_three max_four min_four   -- for this text's walks alone
set_option linter.unusedVariables false
set_option linter.unusedSimpArgs false



def errW : Option Int → Value
  | none => .nilIface
  | some c => .iface 0 (.int .i64 c)
theorem errW_none : errW none = .nilIface := rfl
theorem errW_some (c : Int) : errW (some c) = .iface 0 (.int .i64 c) := rfl

theorem info5 : (Tryz.prog.info? 5).map (fun i => (i.zero, i.size, i.bytes)) = some (some (.int .u8 0), 1, 1) := by kernel_rfl
theorem info9 : (Tryz.prog.info? 9).map (fun i => (i.zero, i.size, i.bytes)) = some (some (.string ⟨#[]⟩), 1, 16) := by kernel_rfl
theorem info44 : (Tryz.prog.info? 44).map (fun i => (i.zero, i.size, i.bytes)) = some (some (.agg #[(.string ⟨#[]⟩), (.string ⟨#[]⟩)]), 2, 32) := by kernel_rfl
theorem info63 : (Tryz.prog.info? 63).map (fun i => (i.zero, i.size, i.bytes)) = some (some (.agg #[(.slice none 0 0), (.slice none 0 0), (.bool false)]), 3, 56) := by kernel_rfl
theorem info82 : (Tryz.prog.info? 82).map (fun i => (i.zero, i.size, i.bytes)) = some (some (.agg #[(.string ⟨#[]⟩), (.string ⟨#[]⟩), (.string ⟨#[]⟩)]), 3, 48) := by kernel_rfl
-- the values' own types
def rd_L2 (xs : List (List ByteArray)) (i : Int) : (List ByteArray) := xs.getD i.toNat ([] : List ByteArray)
theorem at_L2 {w : World} {A : Option Addr} {n : Nat} {xs : List (List ByteArray)} (h : Kd.C (Kd.slice 9 Kd.string) w A n xs) (i : Int) (h0 : 0 ≤ i) (h1 : i < n) : ∃ ad A0 c0, A = some ad ∧ w.cell? (ad.add i.toNat) = some (.slice A0 (rd_L2 xs i).length c0) ∧ (rd_L2 xs i).length ≤ c0 ∧ Kd.string.C w A0 (rd_L2 xs i).length (rd_L2 xs i) := by
  obtain ⟨ad, c, e, _, hK, hc0⟩ := Kd.C_get h ([] : List ByteArray) i h0 h1
  have hc : ∀ j u, c[j]? = some u → w.cell? (ad.add (i.toNat * 1 + j)) = some u := hc0
  obtain ⟨A0, c0, rfl, l0, g0⟩ := hK
  exact ⟨ad, A0, c0, e, by have hq := hc 0 _ rfl; rwa [Nat.mul_one, Nat.add_zero] at hq, l0, g0⟩

/-! #### struct type 49 -/
structure S49 where
  f0 : Int
  f1 : (List ByteArray)
  f2 : (List ByteArray)
  f3 : Bool
def z49 : S49 := ⟨(0 : Int), ([] : List ByteArray), ([] : List ByteArray), false⟩
def k49 : Kd S49 := Kd.iso (Kd.pair (Kd.int .i64) (Kd.pair (Kd.slice 9 Kd.string) (Kd.pair (Kd.slice 9 Kd.string) Kd.bool))) (fun x : S49 => (x.f0, x.f1, x.f2, x.f3))
theorem k49_open {w : World} {x : S49} {cs : List Value} (h : k49.K w x cs) : ∃ A1 c1 A2 c2, cs = [.int .i64 x.f0, .slice A1 x.f1.length c1, .slice A2 x.f2.length c2, .bool x.f3] ∧ x.f1.length ≤ c1 ∧ Kd.string.C w A1 x.f1.length x.f1 ∧ x.f2.length ≤ c2 ∧ Kd.string.C w A2 x.f2.length x.f2 := by
  obtain ⟨_, _, rfl, rfl, ⟨_, _, rfl, ⟨A1, c1, rfl, l1, g1⟩, ⟨_, _, rfl, ⟨A2, c2, rfl, l2, g2⟩, rfl⟩⟩⟩ := h
  exact ⟨A1, c1, A2, c2, rfl, l1, g1, l2, g2⟩
theorem k49_openM {w : World} {base : Nat} {ok : Nat → Prop} {x : S49} {cs : List Value} (h : k49.M w base ok x cs) : ∃ v1 v2, cs = [.int .i64 x.f0, v1, v2, .bool x.f3] ∧ Kd.string.R 9 w base ok v1 x.f1 ∧ Kd.string.R 9 w base ok v2 x.f2 := by
  obtain ⟨_, _, rfl, rfl, ⟨_, _, rfl, ⟨v1, rfl, g1⟩, ⟨_, _, rfl, ⟨v2, rfl, g2⟩, rfl⟩⟩⟩ := h
  exact ⟨v1, v2, rfl, g1, g2⟩
theorem k49_mk (w : World) (x : S49) {A1 : Option Addr} {c1 : Nat} (l1 : x.f1.length ≤ c1) (g1 : Kd.string.C w A1 x.f1.length x.f1) {A2 : Option Addr} {c2 : Nat} (l2 : x.f2.length ≤ c2) (g2 : Kd.string.C w A2 x.f2.length x.f2) : k49.K w x [.int .i64 x.f0, .slice A1 x.f1.length c1, .slice A2 x.f2.length c2, .bool x.f3] := ⟨[.int .i64 x.f0], [.slice A1 x.f1.length c1, .slice A2 x.f2.length c2, .bool x.f3], rfl, rfl, ⟨[.slice A1 x.f1.length c1], [.slice A2 x.f2.length c2, .bool x.f3], rfl, ⟨A1, c1, rfl, l1, g1⟩, ⟨[.slice A2 x.f2.length c2], [.bool x.f3], rfl, ⟨A2, c2, rfl, l2, g2⟩, rfl⟩⟩⟩
theorem k49_mkM (w : World) (base : Nat) (ok : Nat → Prop) (x : S49) {v1 : Value} (g1 : Kd.string.R 9 w base ok v1 x.f1) {v2 : Value} (g2 : Kd.string.R 9 w base ok v2 x.f2) : k49.M w base ok x [.int .i64 x.f0, v1, v2, .bool x.f3] := ⟨[.int .i64 x.f0], [v1, v2, .bool x.f3], rfl, rfl, ⟨[v1], [v2, .bool x.f3], rfl, ⟨v1, rfl, g1⟩, ⟨[v2], [.bool x.f3], rfl, ⟨v2, rfl, g2⟩, rfl⟩⟩⟩
theorem k49_openF {W : World} {ok : Nat → Prop} {x : S49} {cs : List Value} (h : Kd.FK k49 W ok x cs) : ∃ A1 c1 A2 c2, cs = [.int .i64 x.f0, .slice A1 x.f1.length c1, .slice A2 x.f2.length c2, .bool x.f3] ∧ x.f1.length ≤ c1 ∧ Kd.F Kd.string W ok A1 x.f1.length x.f1 ∧ x.f2.length ≤ c2 ∧ Kd.F Kd.string W ok A2 x.f2.length x.f2 := by
  obtain ⟨A1, c1, A2, c2, rfl, l1, _, l2, _⟩ := k49_open (Kd.FK_now h)
  exact ⟨A1, c1, A2, c2, rfl, l1, (fun W' hW => by obtain ⟨A1_, c1_, A2_, c2_, he, l1_, g1_, l2_, g2_⟩ := k49_open (h W' hW); injection (Option.some.inj (show some (Value.slice A1 x.f1.length c1) = some (Value.slice A1_ x.f1.length c1_) from congrArg (fun l => l[1]?) he)) with ha_ _ _; rw [ha_]; exact g1_), l2, (fun W' hW => by obtain ⟨A1_, c1_, A2_, c2_, he, l1_, g1_, l2_, g2_⟩ := k49_open (h W' hW); injection (Option.some.inj (show some (Value.slice A2 x.f2.length c2) = some (Value.slice A2_ x.f2.length c2_) from congrArg (fun l => l[2]?) he)) with ha_ _ _; rw [ha_]; exact g2_)⟩
theorem k49_mkF (W : World) (ok : Nat → Prop) (x : S49) {A1 : Option Addr} {c1 : Nat} (l1 : x.f1.length ≤ c1) (g1 : Kd.F Kd.string W ok A1 x.f1.length x.f1) {A2 : Option Addr} {c2 : Nat} (l2 : x.f2.length ≤ c2) (g2 : Kd.F Kd.string W ok A2 x.f2.length x.f2) : Kd.FK k49 W ok x [.int .i64 x.f0, .slice A1 x.f1.length c1, .slice A2 x.f2.length c2, .bool x.f3] := fun W2 hW => k49_mk W2 x l1 (g1 W2 hW) l2 (g2 W2 hW)
def rd_T49 (xs : List S49) (i : Int) : S49 := xs.getD i.toNat z49
theorem at_T49 {w : World} {A : Option Addr} {n : Nat} {xs : List S49} (h : Kd.C k49 w A n xs) (i : Int) (h0 : 0 ≤ i) (h1 : i < n) : ∃ ad A1 c1 A2 c2, A = some ad ∧ w.cell? (ad.add (i.toNat * 4)) = some (.int .i64 (rd_T49 xs i).f0) ∧ w.cell? ⟨(ad.add (i.toNat * 4)).block, (ad.add (i.toNat * 4)).off + 1, none⟩ = some (.slice A1 (rd_T49 xs i).f1.length c1) ∧ w.cell? ⟨(ad.add (i.toNat * 4)).block, (ad.add (i.toNat * 4)).off + 2, none⟩ = some (.slice A2 (rd_T49 xs i).f2.length c2) ∧ w.cell? ⟨(ad.add (i.toNat * 4)).block, (ad.add (i.toNat * 4)).off + 3, none⟩ = some (.bool (rd_T49 xs i).f3) ∧ (rd_T49 xs i).f1.length ≤ c1 ∧ Kd.string.C w A1 (rd_T49 xs i).f1.length (rd_T49 xs i).f1 ∧ (rd_T49 xs i).f2.length ≤ c2 ∧ Kd.string.C w A2 (rd_T49 xs i).f2.length (rd_T49 xs i).f2 := by
  obtain ⟨ad, c, e, _, hK, hc0⟩ := Kd.C_get h z49 i h0 h1
  have hc : ∀ j u, c[j]? = some u → w.cell? (ad.add (i.toNat * 4 + j)) = some u := hc0
  obtain ⟨A1, c1, A2, c2, rfl, l1, g1, l2, g2⟩ := k49_open hK
  exact ⟨ad, A1, c1, A2, c2, e, hc 0 _ rfl, by rw [← add_field _ _ 1 (by omega)]; exact hc 1 _ rfl, by rw [← add_field _ _ 2 (by omega)]; exact hc 2 _ rfl, by rw [← add_field _ _ 3 (by omega)]; exact hc 3 _ rfl, l1, g1, l2, g2⟩

/-! #### struct type 44 -/
structure S44 where
  f0 : ByteArray
  f1 : ByteArray
def z44 : S44 := ⟨(⟨#[]⟩ : ByteArray), (⟨#[]⟩ : ByteArray)⟩
def k44 : Kd S44 := Kd.iso (Kd.pair Kd.string Kd.string) (fun x : S44 => (x.f0, x.f1))
theorem k44_open {w : World} {x : S44} {cs : List Value} (h : k44.K w x cs) : cs = [.string x.f0, .string x.f1] := by
  obtain ⟨_, _, rfl, rfl, rfl⟩ := h
  exact rfl
theorem k44_openM {w : World} {base : Nat} {ok : Nat → Prop} {x : S44} {cs : List Value} (h : k44.M w base ok x cs) : cs = [.string x.f0, .string x.f1] := by
  obtain ⟨_, _, rfl, rfl, rfl⟩ := h
  exact rfl
theorem k44_mk (w : World) (x : S44)  : k44.K w x [.string x.f0, .string x.f1] := ⟨[.string x.f0], [.string x.f1], rfl, rfl, rfl⟩
theorem k44_mkM (w : World) (base : Nat) (ok : Nat → Prop) (x : S44)  : k44.M w base ok x [.string x.f0, .string x.f1] := ⟨[.string x.f0], [.string x.f1], rfl, rfl, rfl⟩
theorem k44_mkF (W : World) (ok : Nat → Prop) (x : S44) : Kd.FK k44 W ok x [.string x.f0, .string x.f1] := fun W2 _ => k44_mk W2 x
def rd_T44 (xs : List S44) (i : Int) : S44 := xs.getD i.toNat z44
theorem at_T44 {w : World} {A : Option Addr} {n : Nat} {xs : List S44} (h : Kd.C k44 w A n xs) (i : Int) (h0 : 0 ≤ i) (h1 : i < n) : ∃ ad , A = some ad ∧ w.cell? (ad.add (i.toNat * 2)) = some (.string (rd_T44 xs i).f0) ∧ w.cell? ⟨(ad.add (i.toNat * 2)).block, (ad.add (i.toNat * 2)).off + 1, none⟩ = some (.string (rd_T44 xs i).f1) := by
  obtain ⟨ad, c, e, _, hK, hc0⟩ := Kd.C_get h z44 i h0 h1
  have hc : ∀ j u, c[j]? = some u → w.cell? (ad.add (i.toNat * 2 + j)) = some u := hc0
  obtain rfl := k44_open hK
  exact ⟨ad, e, hc 0 _ rfl, by rw [← add_field _ _ 1 (by omega)]; exact hc 1 _ rfl⟩

/-! #### struct type 63 -/
structure S63 where
  f0 : (List ByteArray)
  f1 : (List ByteArray)
  f2 : Bool
def z63 : S63 := ⟨([] : List ByteArray), ([] : List ByteArray), false⟩
def k63 : Kd S63 := Kd.iso (Kd.pair (Kd.slice 9 Kd.string) (Kd.pair (Kd.slice 9 Kd.string) Kd.bool)) (fun x : S63 => (x.f0, x.f1, x.f2))
theorem k63_open {w : World} {x : S63} {cs : List Value} (h : k63.K w x cs) : ∃ A0 c0 A1 c1, cs = [.slice A0 x.f0.length c0, .slice A1 x.f1.length c1, .bool x.f2] ∧ x.f0.length ≤ c0 ∧ Kd.string.C w A0 x.f0.length x.f0 ∧ x.f1.length ≤ c1 ∧ Kd.string.C w A1 x.f1.length x.f1 := by
  obtain ⟨_, _, rfl, ⟨A0, c0, rfl, l0, g0⟩, ⟨_, _, rfl, ⟨A1, c1, rfl, l1, g1⟩, rfl⟩⟩ := h
  exact ⟨A0, c0, A1, c1, rfl, l0, g0, l1, g1⟩
theorem k63_openM {w : World} {base : Nat} {ok : Nat → Prop} {x : S63} {cs : List Value} (h : k63.M w base ok x cs) : ∃ v0 v1, cs = [v0, v1, .bool x.f2] ∧ Kd.string.R 9 w base ok v0 x.f0 ∧ Kd.string.R 9 w base ok v1 x.f1 := by
  obtain ⟨_, _, rfl, ⟨v0, rfl, g0⟩, ⟨_, _, rfl, ⟨v1, rfl, g1⟩, rfl⟩⟩ := h
  exact ⟨v0, v1, rfl, g0, g1⟩
theorem k63_mk (w : World) (x : S63) {A0 : Option Addr} {c0 : Nat} (l0 : x.f0.length ≤ c0) (g0 : Kd.string.C w A0 x.f0.length x.f0) {A1 : Option Addr} {c1 : Nat} (l1 : x.f1.length ≤ c1) (g1 : Kd.string.C w A1 x.f1.length x.f1) : k63.K w x [.slice A0 x.f0.length c0, .slice A1 x.f1.length c1, .bool x.f2] := ⟨[.slice A0 x.f0.length c0], [.slice A1 x.f1.length c1, .bool x.f2], rfl, ⟨A0, c0, rfl, l0, g0⟩, ⟨[.slice A1 x.f1.length c1], [.bool x.f2], rfl, ⟨A1, c1, rfl, l1, g1⟩, rfl⟩⟩
theorem k63_mkM (w : World) (base : Nat) (ok : Nat → Prop) (x : S63) {v0 : Value} (g0 : Kd.string.R 9 w base ok v0 x.f0) {v1 : Value} (g1 : Kd.string.R 9 w base ok v1 x.f1) : k63.M w base ok x [v0, v1, .bool x.f2] := ⟨[v0], [v1, .bool x.f2], rfl, ⟨v0, rfl, g0⟩, ⟨[v1], [.bool x.f2], rfl, ⟨v1, rfl, g1⟩, rfl⟩⟩
theorem k63_openF {W : World} {ok : Nat → Prop} {x : S63} {cs : List Value} (h : Kd.FK k63 W ok x cs) : ∃ A0 c0 A1 c1, cs = [.slice A0 x.f0.length c0, .slice A1 x.f1.length c1, .bool x.f2] ∧ x.f0.length ≤ c0 ∧ Kd.F Kd.string W ok A0 x.f0.length x.f0 ∧ x.f1.length ≤ c1 ∧ Kd.F Kd.string W ok A1 x.f1.length x.f1 := by
  obtain ⟨A0, c0, A1, c1, rfl, l0, _, l1, _⟩ := k63_open (Kd.FK_now h)
  exact ⟨A0, c0, A1, c1, rfl, l0, (fun W' hW => by obtain ⟨A0_, c0_, A1_, c1_, he, l0_, g0_, l1_, g1_⟩ := k63_open (h W' hW); injection (Option.some.inj (show some (Value.slice A0 x.f0.length c0) = some (Value.slice A0_ x.f0.length c0_) from congrArg (fun l => l[0]?) he)) with ha_ _ _; rw [ha_]; exact g0_), l1, (fun W' hW => by obtain ⟨A0_, c0_, A1_, c1_, he, l0_, g0_, l1_, g1_⟩ := k63_open (h W' hW); injection (Option.some.inj (show some (Value.slice A1 x.f1.length c1) = some (Value.slice A1_ x.f1.length c1_) from congrArg (fun l => l[1]?) he)) with ha_ _ _; rw [ha_]; exact g1_)⟩
theorem k63_mkF (W : World) (ok : Nat → Prop) (x : S63) {A0 : Option Addr} {c0 : Nat} (l0 : x.f0.length ≤ c0) (g0 : Kd.F Kd.string W ok A0 x.f0.length x.f0) {A1 : Option Addr} {c1 : Nat} (l1 : x.f1.length ≤ c1) (g1 : Kd.F Kd.string W ok A1 x.f1.length x.f1) : Kd.FK k63 W ok x [.slice A0 x.f0.length c0, .slice A1 x.f1.length c1, .bool x.f2] := fun W2 hW => k63_mk W2 x l0 (g0 W2 hW) l1 (g1 W2 hW)
def rd_T63 (xs : List S63) (i : Int) : S63 := xs.getD i.toNat z63
theorem at_T63 {w : World} {A : Option Addr} {n : Nat} {xs : List S63} (h : Kd.C k63 w A n xs) (i : Int) (h0 : 0 ≤ i) (h1 : i < n) : ∃ ad A0 c0 A1 c1, A = some ad ∧ w.cell? (ad.add (i.toNat * 3)) = some (.slice A0 (rd_T63 xs i).f0.length c0) ∧ w.cell? ⟨(ad.add (i.toNat * 3)).block, (ad.add (i.toNat * 3)).off + 1, none⟩ = some (.slice A1 (rd_T63 xs i).f1.length c1) ∧ w.cell? ⟨(ad.add (i.toNat * 3)).block, (ad.add (i.toNat * 3)).off + 2, none⟩ = some (.bool (rd_T63 xs i).f2) ∧ (rd_T63 xs i).f0.length ≤ c0 ∧ Kd.string.C w A0 (rd_T63 xs i).f0.length (rd_T63 xs i).f0 ∧ (rd_T63 xs i).f1.length ≤ c1 ∧ Kd.string.C w A1 (rd_T63 xs i).f1.length (rd_T63 xs i).f1 := by
  obtain ⟨ad, c, e, _, hK, hc0⟩ := Kd.C_get h z63 i h0 h1
  have hc : ∀ j u, c[j]? = some u → w.cell? (ad.add (i.toNat * 3 + j)) = some u := hc0
  obtain ⟨A0, c0, A1, c1, rfl, l0, g0, l1, g1⟩ := k63_open hK
  exact ⟨ad, A0, c0, A1, c1, e, hc 0 _ rfl, by rw [← add_field _ _ 1 (by omega)]; exact hc 1 _ rfl, by rw [← add_field _ _ 2 (by omega)]; exact hc 2 _ rfl, l0, g0, l1, g1⟩

/-! #### struct type 82 -/
structure S82 where
  f0 : ByteArray
  f1 : ByteArray
  f2 : ByteArray
def z82 : S82 := ⟨(⟨#[]⟩ : ByteArray), (⟨#[]⟩ : ByteArray), (⟨#[]⟩ : ByteArray)⟩
def k82 : Kd S82 := Kd.iso (Kd.pair Kd.string (Kd.pair Kd.string Kd.string)) (fun x : S82 => (x.f0, x.f1, x.f2))
theorem k82_open {w : World} {x : S82} {cs : List Value} (h : k82.K w x cs) : cs = [.string x.f0, .string x.f1, .string x.f2] := by
  obtain ⟨_, _, rfl, rfl, ⟨_, _, rfl, rfl, rfl⟩⟩ := h
  exact rfl
theorem k82_openM {w : World} {base : Nat} {ok : Nat → Prop} {x : S82} {cs : List Value} (h : k82.M w base ok x cs) : cs = [.string x.f0, .string x.f1, .string x.f2] := by
  obtain ⟨_, _, rfl, rfl, ⟨_, _, rfl, rfl, rfl⟩⟩ := h
  exact rfl
theorem k82_mk (w : World) (x : S82)  : k82.K w x [.string x.f0, .string x.f1, .string x.f2] := ⟨[.string x.f0], [.string x.f1, .string x.f2], rfl, rfl, ⟨[.string x.f1], [.string x.f2], rfl, rfl, rfl⟩⟩
theorem k82_mkM (w : World) (base : Nat) (ok : Nat → Prop) (x : S82)  : k82.M w base ok x [.string x.f0, .string x.f1, .string x.f2] := ⟨[.string x.f0], [.string x.f1, .string x.f2], rfl, rfl, ⟨[.string x.f1], [.string x.f2], rfl, rfl, rfl⟩⟩
theorem k82_mkF (W : World) (ok : Nat → Prop) (x : S82) : Kd.FK k82 W ok x [.string x.f0, .string x.f1, .string x.f2] := fun W2 _ => k82_mk W2 x
def rd_T82 (xs : List S82) (i : Int) : S82 := xs.getD i.toNat z82
theorem at_T82 {w : World} {A : Option Addr} {n : Nat} {xs : List S82} (h : Kd.C k82 w A n xs) (i : Int) (h0 : 0 ≤ i) (h1 : i < n) : ∃ ad , A = some ad ∧ w.cell? (ad.add (i.toNat * 3)) = some (.string (rd_T82 xs i).f0) ∧ w.cell? ⟨(ad.add (i.toNat * 3)).block, (ad.add (i.toNat * 3)).off + 1, none⟩ = some (.string (rd_T82 xs i).f1) ∧ w.cell? ⟨(ad.add (i.toNat * 3)).block, (ad.add (i.toNat * 3)).off + 2, none⟩ = some (.string (rd_T82 xs i).f2) := by
  obtain ⟨ad, c, e, _, hK, hc0⟩ := Kd.C_get h z82 i h0 h1
  have hc : ∀ j u, c[j]? = some u → w.cell? (ad.add (i.toNat * 3 + j)) = some u := hc0
  obtain rfl := k82_open hK
  exact ⟨ad, e, hc 0 _ rfl, by rw [← add_field _ _ 1 (by omega)]; exact hc 1 _ rfl, by rw [← add_field _ _ 2 (by omega)]; exact hc 2 _ rfl⟩

/-! #### struct type 183 -/
structure S183 where
  f0 : Int
  f1 : Int
  f2 : Int
def z183 : S183 := ⟨(0 : Int), (0 : Int), (0 : Int)⟩
def k183 : Kd S183 := Kd.iso (Kd.pair (Kd.int .u16) (Kd.pair (Kd.int .u16) (Kd.int .u16))) (fun x : S183 => (x.f0, x.f1, x.f2))
theorem k183_open {w : World} {x : S183} {cs : List Value} (h : k183.K w x cs) : cs = [.int .u16 x.f0, .int .u16 x.f1, .int .u16 x.f2] := by
  obtain ⟨_, _, rfl, rfl, ⟨_, _, rfl, rfl, rfl⟩⟩ := h
  exact rfl
theorem k183_openM {w : World} {base : Nat} {ok : Nat → Prop} {x : S183} {cs : List Value} (h : k183.M w base ok x cs) : cs = [.int .u16 x.f0, .int .u16 x.f1, .int .u16 x.f2] := by
  obtain ⟨_, _, rfl, rfl, ⟨_, _, rfl, rfl, rfl⟩⟩ := h
  exact rfl
theorem k183_mk (w : World) (x : S183)  : k183.K w x [.int .u16 x.f0, .int .u16 x.f1, .int .u16 x.f2] := ⟨[.int .u16 x.f0], [.int .u16 x.f1, .int .u16 x.f2], rfl, rfl, ⟨[.int .u16 x.f1], [.int .u16 x.f2], rfl, rfl, rfl⟩⟩
theorem k183_mkM (w : World) (base : Nat) (ok : Nat → Prop) (x : S183)  : k183.M w base ok x [.int .u16 x.f0, .int .u16 x.f1, .int .u16 x.f2] := ⟨[.int .u16 x.f0], [.int .u16 x.f1, .int .u16 x.f2], rfl, rfl, ⟨[.int .u16 x.f1], [.int .u16 x.f2], rfl, rfl, rfl⟩⟩
theorem k183_mkF (W : World) (ok : Nat → Prop) (x : S183) : Kd.FK k183 W ok x [.int .u16 x.f0, .int .u16 x.f1, .int .u16 x.f2] := fun W2 _ => k183_mk W2 x
def rd_T183 (xs : List S183) (i : Int) : S183 := xs.getD i.toNat z183
theorem at_T183 {w : World} {A : Option Addr} {n : Nat} {xs : List S183} (h : Kd.C k183 w A n xs) (i : Int) (h0 : 0 ≤ i) (h1 : i < n) : ∃ ad , A = some ad ∧ w.cell? (ad.add (i.toNat * 3)) = some (.int .u16 (rd_T183 xs i).f0) ∧ w.cell? ⟨(ad.add (i.toNat * 3)).block, (ad.add (i.toNat * 3)).off + 1, none⟩ = some (.int .u16 (rd_T183 xs i).f1) ∧ w.cell? ⟨(ad.add (i.toNat * 3)).block, (ad.add (i.toNat * 3)).off + 2, none⟩ = some (.int .u16 (rd_T183 xs i).f2) := by
  obtain ⟨ad, c, e, _, hK, hc0⟩ := Kd.C_get h z183 i h0 h1
  have hc : ∀ j u, c[j]? = some u → w.cell? (ad.add (i.toNat * 3 + j)) = some u := hc0
  obtain rfl := k183_open hK
  exact ⟨ad, e, hc 0 _ rfl, by rw [← add_field _ _ 1 (by omega)]; exact hc 1 _ rfl, by rw [← add_field _ _ 2 (by omega)]; exact hc 2 _ rfl⟩

/-! #### struct type 186 -/
structure S186 where
  f0 : Int
  f1 : Int
  f2 : Int
def z186 : S186 := ⟨(0 : Int), (0 : Int), (0 : Int)⟩
def k186 : Kd S186 := Kd.iso (Kd.pair (Kd.int .u32) (Kd.pair (Kd.int .u32) (Kd.int .u32))) (fun x : S186 => (x.f0, x.f1, x.f2))
theorem k186_open {w : World} {x : S186} {cs : List Value} (h : k186.K w x cs) : cs = [.int .u32 x.f0, .int .u32 x.f1, .int .u32 x.f2] := by
  obtain ⟨_, _, rfl, rfl, ⟨_, _, rfl, rfl, rfl⟩⟩ := h
  exact rfl
theorem k186_openM {w : World} {base : Nat} {ok : Nat → Prop} {x : S186} {cs : List Value} (h : k186.M w base ok x cs) : cs = [.int .u32 x.f0, .int .u32 x.f1, .int .u32 x.f2] := by
  obtain ⟨_, _, rfl, rfl, ⟨_, _, rfl, rfl, rfl⟩⟩ := h
  exact rfl
theorem k186_mk (w : World) (x : S186)  : k186.K w x [.int .u32 x.f0, .int .u32 x.f1, .int .u32 x.f2] := ⟨[.int .u32 x.f0], [.int .u32 x.f1, .int .u32 x.f2], rfl, rfl, ⟨[.int .u32 x.f1], [.int .u32 x.f2], rfl, rfl, rfl⟩⟩
theorem k186_mkM (w : World) (base : Nat) (ok : Nat → Prop) (x : S186)  : k186.M w base ok x [.int .u32 x.f0, .int .u32 x.f1, .int .u32 x.f2] := ⟨[.int .u32 x.f0], [.int .u32 x.f1, .int .u32 x.f2], rfl, rfl, ⟨[.int .u32 x.f1], [.int .u32 x.f2], rfl, rfl, rfl⟩⟩
theorem k186_mkF (W : World) (ok : Nat → Prop) (x : S186) : Kd.FK k186 W ok x [.int .u32 x.f0, .int .u32 x.f1, .int .u32 x.f2] := fun W2 _ => k186_mk W2 x
def rd_T186 (xs : List S186) (i : Int) : S186 := xs.getD i.toNat z186
theorem at_T186 {w : World} {A : Option Addr} {n : Nat} {xs : List S186} (h : Kd.C k186 w A n xs) (i : Int) (h0 : 0 ≤ i) (h1 : i < n) : ∃ ad , A = some ad ∧ w.cell? (ad.add (i.toNat * 3)) = some (.int .u32 (rd_T186 xs i).f0) ∧ w.cell? ⟨(ad.add (i.toNat * 3)).block, (ad.add (i.toNat * 3)).off + 1, none⟩ = some (.int .u32 (rd_T186 xs i).f1) ∧ w.cell? ⟨(ad.add (i.toNat * 3)).block, (ad.add (i.toNat * 3)).off + 2, none⟩ = some (.int .u32 (rd_T186 xs i).f2) := by
  obtain ⟨ad, c, e, _, hK, hc0⟩ := Kd.C_get h z186 i h0 h1
  have hc : ∀ j u, c[j]? = some u → w.cell? (ad.add (i.toNat * 3 + j)) = some u := hc0
  obtain rfl := k186_open hK
  exact ⟨ad, e, hc 0 _ rfl, by rw [← add_field _ _ 1 (by omega)]; exact hc 1 _ rfl, by rw [← add_field _ _ 2 (by omega)]; exact hc 2 _ rfl⟩

end Go.Proofs.YtlgacgiikmkfcaaGreatDoor.PFnAttrs
