-- Written by a program over the translation (xprint.py). Lean checks it.
import Derived.Test.YtgeamhmenmomhaaDoorProg
import Derived.Below
import Derived.Deep.Draws
import Derived.Deep.AppendLies
import Derived.Maps.AppendAt
import Derived.OwnWalk
import Derived.Laws.BytesArg
import Derived.Laws.MakeOwn
import Derived.Laws.OwnMore
import Derived.Deep.OwnRows
import Derived.Tactics
import Derived.Lib.ConvBytes
import Derived.Laws.Slices
import Derived.WalkKit
import Derived.KernelRfl
import Derived.RowKit3
import Derived.Deep.LoopGhost
import Derived.Deep.QuietTactic
import Derived.BigQuiet
import Derived.WideLaws
import Derived.Deep.DeepCutAuto
import Derived.Deep.CutBlock
import Derived.Deep.RegionHeld3
import Derived.Laws.Rows
import Derived.Lib.AppendStr
import Derived.ArgAppend
import Derived.Laws.IdiomCopy
import Derived.OrdersHeld
import Derived.Laws.BitsLemmas
import Derived.RowKit
import Derived.Test.YtgeamhmenmomhaaDoorWWords
import Derived.Test.YtgeamhmenmomhaaDoorWLast
import Derived.Test.YtgeamhmenmomhaaDoorWTab
import Derived.Test.YtgeamhmenmomhaaDoorWApart
import Derived.Test.YtgeamhmenmomhaaDoorWFoot
import Derived.Test.YtgeamhmenmomhaaDoorWKept
import Derived.Test.YtgeamhmenmomhaaDoorWShare
import Derived.Test.YtgeamhmenmomhaaDoorWFootNe
import Derived.Laws.StructEq
import Derived.Test.YtgeamhmenmomhaaDoorWRepsOne
import Derived.Test.YtgeamhmenmomhaaDoorWGuard
import Derived.Test.YtgeamhmenmomhaaDoorWMore
namespace Go.Proofs.YtgeamhmenmomhaaDoor.PT
open Go.RowKit Go.Proofs.YtgeamhmenmomhaaDoorW.PrintWords Go.Proofs.YtgeamhmenmomhaaDoorW.PrintLast Go.Proofs.YtgeamhmenmomhaaDoorW.PrintMore
attribute [local go_sem] max2_int min2_int max_two min_two max_three min_three max_four min_four   -- for this text's walks alone
set_option linter.unusedVariables false
set_option linter.unusedSimpArgs false



def errW : Option Int → Value
  | none => .nilIface
  | some c => .iface 0 (.int .i64 c)
theorem errW_none : errW none = .nilIface := rfl
theorem errW_some (c : Int) : errW (some c) = .iface 0 (.int .i64 c) := rfl

theorem info9 : (Tryd.prog.info? 9).map (fun i => (i.zero, i.size, i.bytes)) = some (some (.string ⟨#[]⟩), 1, 16) := by kernel_rfl
theorem info25 : (Tryd.prog.info? 25).map (fun i => (i.zero, i.size, i.bytes)) = some (some (.agg #[(.int .i64 0), (.int .i64 0), (.string ⟨#[]⟩), (.slice none 0 0), (.slice none 0 0)]), 5, 80) := by kernel_rfl
theorem info36 : (Tryd.prog.info? 36).map (fun i => (i.zero, i.size, i.bytes)) = some (some (.agg #[(.int .i64 0), (.int .i64 0), (.string ⟨#[]⟩), (.slice none 0 0), (.slice none 0 0)]), 5, 80) := by kernel_rfl
theorem info69 : (Tryd.prog.info? 69).map (fun i => (i.zero, i.size, i.bytes)) = some (some (.agg #[(.string ⟨#[]⟩), (.string ⟨#[]⟩)]), 2, 32) := by kernel_rfl
-- the values' own types
/-! #### struct type 25, nested in itself -/
structure S25 where
  f0 : Int
  f1 : Int
  f2 : ByteArray
  f3 : (List ByteArray)
  f4 : (List S25)
def z25 : S25 := ⟨(0 : Int), (0 : Int), (⟨#[]⟩ : ByteArray), ([] : List ByteArray), ([] : List S25)⟩
def F25 (d : Kd S25) : Kd S25 := Kd.iso (Kd.pair (Kd.int .i64) (Kd.pair (Kd.int .i64) (Kd.pair Kd.string (Kd.pair (Kd.slice 9 Kd.string) (Kd.slice 25 d))))) (fun x : S25 => (x.f0, x.f1, x.f2, x.f3, x.f4))
theorem mono25 : Kd.Mono F25 := Kd.mono_iso _ (Kd.mono_pair (Kd.mono_const _) (Kd.mono_pair (Kd.mono_const _) (Kd.mono_pair (Kd.mono_const _) (Kd.mono_pair (Kd.mono_const _) (Kd.mono_slice 25 Kd.mono_id)))))
theorem sub25 : Kd.Sub F25 [9, 25] := Kd.sub_iso _ (Kd.sub_pair (Kd.sub_const _ (by decide)) (Kd.sub_pair (Kd.sub_const _ (by decide)) (Kd.sub_pair (Kd.sub_const _ (by decide)) (Kd.sub_pair (Kd.sub_const _ (by decide)) (Kd.sub_slice 25 (by decide) Kd.sub_id)))))
theorem sz25 : ∀ n, (Kd.upto F25 5 [9, 25] n).sz = 5 := Kd.upto_sz (fun _ => rfl)
def k25 : Kd S25 := Kd.fix F25 5 [9, 25] sz25 (Kd.upto_E sub25)
theorem k25_open {w : World} {x : S25} {cs : List Value} (h : k25.K w x cs) : ∃ A3 c3 A4 c4, cs = [.int .i64 x.f0, .int .i64 x.f1, .string x.f2, .slice A3 x.f3.length c3, .slice A4 x.f4.length c4] ∧ x.f3.length ≤ c3 ∧ Kd.string.C w A3 x.f3.length x.f3 ∧ x.f4.length ≤ c4 ∧ k25.C w A4 x.f4.length x.f4 := by
  obtain ⟨n, h⟩ := h
  cases n with
  | zero => exact h.elim
  | succ n =>
    obtain ⟨_, _, rfl, rfl, ⟨_, _, rfl, rfl, ⟨_, _, rfl, rfl, ⟨_, _, rfl, ⟨A3, c3, rfl, l3, g3⟩, ⟨A4, c4, rfl, l4, g4⟩⟩⟩⟩⟩ := h
    exact ⟨A3, c3, A4, c4, rfl, l3, g3, l4, Kd.fix_C g4⟩
theorem k25_mk (w : World) (x : S25) {A3 : Option Addr} {c3 : Nat} (l3 : x.f3.length ≤ c3) (g3 : Kd.string.C w A3 x.f3.length x.f3) {A4 : Option Addr} {c4 : Nat} (l4 : x.f4.length ≤ c4) (g4 : k25.C w A4 x.f4.length x.f4) : k25.K w x [.int .i64 x.f0, .int .i64 x.f1, .string x.f2, .slice A3 x.f3.length c3, .slice A4 x.f4.length c4] := by
  obtain ⟨n4, q4⟩ := Kd.fix_C_back mono25 g4
  have r4 := Kd.upto_C_le mono25 sz25 (show n4 ≤ n4 by omega) q4
  exact ⟨n4 + 1, ⟨[.int .i64 x.f0], [.int .i64 x.f1, .string x.f2, .slice A3 x.f3.length c3, .slice A4 x.f4.length c4], rfl, rfl, ⟨[.int .i64 x.f1], [.string x.f2, .slice A3 x.f3.length c3, .slice A4 x.f4.length c4], rfl, rfl, ⟨[.string x.f2], [.slice A3 x.f3.length c3, .slice A4 x.f4.length c4], rfl, rfl, ⟨[.slice A3 x.f3.length c3], [.slice A4 x.f4.length c4], rfl, ⟨A3, c3, rfl, l3, g3⟩, ⟨A4, c4, rfl, l4, r4⟩⟩⟩⟩⟩⟩
theorem k25_mkM (w : World) (base : Nat) (ok : Nat → Prop) (x : S25) {v3 : Value} (g3 : Kd.string.R 9 w base ok v3 x.f3) {v4 : Value} (g4 : k25.R 25 w base ok v4 x.f4) : k25.M w base ok x [.int .i64 x.f0, .int .i64 x.f1, .string x.f2, v3, v4] := by
  obtain ⟨n4, q4⟩ := Kd.fix_R_back mono25 g4
  have r4 := Kd.upto_R_le mono25 sz25 (show n4 ≤ n4 by omega) q4
  exact ⟨n4 + 1, ⟨[.int .i64 x.f0], [.int .i64 x.f1, .string x.f2, v3, v4], rfl, rfl, ⟨[.int .i64 x.f1], [.string x.f2, v3, v4], rfl, rfl, ⟨[.string x.f2], [v3, v4], rfl, rfl, ⟨[v3], [v4], rfl, ⟨v3, rfl, g3⟩, ⟨v4, rfl, r4⟩⟩⟩⟩⟩⟩
def rd_T25 (xs : List S25) (i : Int) : S25 := xs.getD i.toNat z25
theorem at_T25 {w : World} {A : Option Addr} {n : Nat} {xs : List S25} (h : Kd.C k25 w A n xs) (i : Int) (h0 : 0 ≤ i) (h1 : i < n) : ∃ ad A3 c3 A4 c4, A = some ad ∧ w.cell? (ad.add (i.toNat * 5)) = some (.int .i64 (rd_T25 xs i).f0) ∧ w.cell? ⟨(ad.add (i.toNat * 5)).block, (ad.add (i.toNat * 5)).off + 1, none⟩ = some (.int .i64 (rd_T25 xs i).f1) ∧ w.cell? ⟨(ad.add (i.toNat * 5)).block, (ad.add (i.toNat * 5)).off + 2, none⟩ = some (.string (rd_T25 xs i).f2) ∧ w.cell? ⟨(ad.add (i.toNat * 5)).block, (ad.add (i.toNat * 5)).off + 3, none⟩ = some (.slice A3 (rd_T25 xs i).f3.length c3) ∧ w.cell? ⟨(ad.add (i.toNat * 5)).block, (ad.add (i.toNat * 5)).off + 4, none⟩ = some (.slice A4 (rd_T25 xs i).f4.length c4) ∧ (rd_T25 xs i).f3.length ≤ c3 ∧ Kd.string.C w A3 (rd_T25 xs i).f3.length (rd_T25 xs i).f3 ∧ (rd_T25 xs i).f4.length ≤ c4 ∧ k25.C w A4 (rd_T25 xs i).f4.length (rd_T25 xs i).f4 := by
  obtain ⟨ad, c, e, _, hK, hc0⟩ := Kd.C_get h z25 i h0 h1
  have hc : ∀ j u, c[j]? = some u → w.cell? (ad.add (i.toNat * 5 + j)) = some u := hc0
  obtain ⟨A3, c3, A4, c4, rfl, l3, g3, l4, g4⟩ := k25_open hK
  exact ⟨ad, A3, c3, A4, c4, e, hc 0 _ rfl, by rw [← add_field _ _ 1 (by omega)]; exact hc 1 _ rfl, by rw [← add_field _ _ 2 (by omega)]; exact hc 2 _ rfl, by rw [← add_field _ _ 3 (by omega)]; exact hc 3 _ rfl, by rw [← add_field _ _ 4 (by omega)]; exact hc 4 _ rfl, l3, g3, l4, g4⟩

/-! #### struct type 36, nested in itself -/
structure S36 where
  f0 : Int
  f1 : Int
  f2 : ByteArray
  f3 : (List ByteArray)
  f4 : (List S36)
def z36 : S36 := ⟨(0 : Int), (0 : Int), (⟨#[]⟩ : ByteArray), ([] : List ByteArray), ([] : List S36)⟩
def F36 (d : Kd S36) : Kd S36 := Kd.iso (Kd.pair (Kd.int .i64) (Kd.pair (Kd.int .i64) (Kd.pair Kd.string (Kd.pair (Kd.slice 9 Kd.string) (Kd.slice 36 d))))) (fun x : S36 => (x.f0, x.f1, x.f2, x.f3, x.f4))
theorem mono36 : Kd.Mono F36 := Kd.mono_iso _ (Kd.mono_pair (Kd.mono_const _) (Kd.mono_pair (Kd.mono_const _) (Kd.mono_pair (Kd.mono_const _) (Kd.mono_pair (Kd.mono_const _) (Kd.mono_slice 36 Kd.mono_id)))))
theorem sub36 : Kd.Sub F36 [9, 36] := Kd.sub_iso _ (Kd.sub_pair (Kd.sub_const _ (by decide)) (Kd.sub_pair (Kd.sub_const _ (by decide)) (Kd.sub_pair (Kd.sub_const _ (by decide)) (Kd.sub_pair (Kd.sub_const _ (by decide)) (Kd.sub_slice 36 (by decide) Kd.sub_id)))))
theorem sz36 : ∀ n, (Kd.upto F36 5 [9, 36] n).sz = 5 := Kd.upto_sz (fun _ => rfl)
def k36 : Kd S36 := Kd.fix F36 5 [9, 36] sz36 (Kd.upto_E sub36)
theorem k36_open {w : World} {x : S36} {cs : List Value} (h : k36.K w x cs) : ∃ A3 c3 A4 c4, cs = [.int .i64 x.f0, .int .i64 x.f1, .string x.f2, .slice A3 x.f3.length c3, .slice A4 x.f4.length c4] ∧ x.f3.length ≤ c3 ∧ Kd.string.C w A3 x.f3.length x.f3 ∧ x.f4.length ≤ c4 ∧ k36.C w A4 x.f4.length x.f4 := by
  obtain ⟨n, h⟩ := h
  cases n with
  | zero => exact h.elim
  | succ n =>
    obtain ⟨_, _, rfl, rfl, ⟨_, _, rfl, rfl, ⟨_, _, rfl, rfl, ⟨_, _, rfl, ⟨A3, c3, rfl, l3, g3⟩, ⟨A4, c4, rfl, l4, g4⟩⟩⟩⟩⟩ := h
    exact ⟨A3, c3, A4, c4, rfl, l3, g3, l4, Kd.fix_C g4⟩
theorem k36_mk (w : World) (x : S36) {A3 : Option Addr} {c3 : Nat} (l3 : x.f3.length ≤ c3) (g3 : Kd.string.C w A3 x.f3.length x.f3) {A4 : Option Addr} {c4 : Nat} (l4 : x.f4.length ≤ c4) (g4 : k36.C w A4 x.f4.length x.f4) : k36.K w x [.int .i64 x.f0, .int .i64 x.f1, .string x.f2, .slice A3 x.f3.length c3, .slice A4 x.f4.length c4] := by
  obtain ⟨n4, q4⟩ := Kd.fix_C_back mono36 g4
  have r4 := Kd.upto_C_le mono36 sz36 (show n4 ≤ n4 by omega) q4
  exact ⟨n4 + 1, ⟨[.int .i64 x.f0], [.int .i64 x.f1, .string x.f2, .slice A3 x.f3.length c3, .slice A4 x.f4.length c4], rfl, rfl, ⟨[.int .i64 x.f1], [.string x.f2, .slice A3 x.f3.length c3, .slice A4 x.f4.length c4], rfl, rfl, ⟨[.string x.f2], [.slice A3 x.f3.length c3, .slice A4 x.f4.length c4], rfl, rfl, ⟨[.slice A3 x.f3.length c3], [.slice A4 x.f4.length c4], rfl, ⟨A3, c3, rfl, l3, g3⟩, ⟨A4, c4, rfl, l4, r4⟩⟩⟩⟩⟩⟩
theorem k36_mkM (w : World) (base : Nat) (ok : Nat → Prop) (x : S36) {v3 : Value} (g3 : Kd.string.R 9 w base ok v3 x.f3) {v4 : Value} (g4 : k36.R 36 w base ok v4 x.f4) : k36.M w base ok x [.int .i64 x.f0, .int .i64 x.f1, .string x.f2, v3, v4] := by
  obtain ⟨n4, q4⟩ := Kd.fix_R_back mono36 g4
  have r4 := Kd.upto_R_le mono36 sz36 (show n4 ≤ n4 by omega) q4
  exact ⟨n4 + 1, ⟨[.int .i64 x.f0], [.int .i64 x.f1, .string x.f2, v3, v4], rfl, rfl, ⟨[.int .i64 x.f1], [.string x.f2, v3, v4], rfl, rfl, ⟨[.string x.f2], [v3, v4], rfl, rfl, ⟨[v3], [v4], rfl, ⟨v3, rfl, g3⟩, ⟨v4, rfl, r4⟩⟩⟩⟩⟩⟩
def rd_T36 (xs : List S36) (i : Int) : S36 := xs.getD i.toNat z36
theorem at_T36 {w : World} {A : Option Addr} {n : Nat} {xs : List S36} (h : Kd.C k36 w A n xs) (i : Int) (h0 : 0 ≤ i) (h1 : i < n) : ∃ ad A3 c3 A4 c4, A = some ad ∧ w.cell? (ad.add (i.toNat * 5)) = some (.int .i64 (rd_T36 xs i).f0) ∧ w.cell? ⟨(ad.add (i.toNat * 5)).block, (ad.add (i.toNat * 5)).off + 1, none⟩ = some (.int .i64 (rd_T36 xs i).f1) ∧ w.cell? ⟨(ad.add (i.toNat * 5)).block, (ad.add (i.toNat * 5)).off + 2, none⟩ = some (.string (rd_T36 xs i).f2) ∧ w.cell? ⟨(ad.add (i.toNat * 5)).block, (ad.add (i.toNat * 5)).off + 3, none⟩ = some (.slice A3 (rd_T36 xs i).f3.length c3) ∧ w.cell? ⟨(ad.add (i.toNat * 5)).block, (ad.add (i.toNat * 5)).off + 4, none⟩ = some (.slice A4 (rd_T36 xs i).f4.length c4) ∧ (rd_T36 xs i).f3.length ≤ c3 ∧ Kd.string.C w A3 (rd_T36 xs i).f3.length (rd_T36 xs i).f3 ∧ (rd_T36 xs i).f4.length ≤ c4 ∧ k36.C w A4 (rd_T36 xs i).f4.length (rd_T36 xs i).f4 := by
  obtain ⟨ad, c, e, _, hK, hc0⟩ := Kd.C_get h z36 i h0 h1
  have hc : ∀ j u, c[j]? = some u → w.cell? (ad.add (i.toNat * 5 + j)) = some u := hc0
  obtain ⟨A3, c3, A4, c4, rfl, l3, g3, l4, g4⟩ := k36_open hK
  exact ⟨ad, A3, c3, A4, c4, e, hc 0 _ rfl, by rw [← add_field _ _ 1 (by omega)]; exact hc 1 _ rfl, by rw [← add_field _ _ 2 (by omega)]; exact hc 2 _ rfl, by rw [← add_field _ _ 3 (by omega)]; exact hc 3 _ rfl, by rw [← add_field _ _ 4 (by omega)]; exact hc 4 _ rfl, l3, g3, l4, g4⟩

/-! #### struct type 51 -/
structure S51 where
  f0 : ByteArray
  f1 : ByteArray
def z51 : S51 := ⟨(⟨#[]⟩ : ByteArray), (⟨#[]⟩ : ByteArray)⟩
def k51 : Kd S51 := Kd.iso (Kd.pair Kd.string Kd.string) (fun x : S51 => (x.f0, x.f1))
theorem k51_open {w : World} {x : S51} {cs : List Value} (h : k51.K w x cs) : cs = [.string x.f0, .string x.f1] := by
  obtain ⟨_, _, rfl, rfl, rfl⟩ := h
  exact rfl
theorem k51_mk (w : World) (x : S51)  : k51.K w x [.string x.f0, .string x.f1] := ⟨[.string x.f0], [.string x.f1], rfl, rfl, rfl⟩
theorem k51_mkM (w : World) (base : Nat) (ok : Nat → Prop) (x : S51)  : k51.M w base ok x [.string x.f0, .string x.f1] := ⟨[.string x.f0], [.string x.f1], rfl, rfl, rfl⟩
def rd_T51 (xs : List S51) (i : Int) : S51 := xs.getD i.toNat z51
theorem at_T51 {w : World} {A : Option Addr} {n : Nat} {xs : List S51} (h : Kd.C k51 w A n xs) (i : Int) (h0 : 0 ≤ i) (h1 : i < n) : ∃ ad , A = some ad ∧ w.cell? (ad.add (i.toNat * 2)) = some (.string (rd_T51 xs i).f0) ∧ w.cell? ⟨(ad.add (i.toNat * 2)).block, (ad.add (i.toNat * 2)).off + 1, none⟩ = some (.string (rd_T51 xs i).f1) := by
  obtain ⟨ad, c, e, _, hK, hc0⟩ := Kd.C_get h z51 i h0 h1
  have hc : ∀ j u, c[j]? = some u → w.cell? (ad.add (i.toNat * 2 + j)) = some u := hc0
  obtain rfl := k51_open hK
  exact ⟨ad, e, hc 0 _ rfl, by rw [← add_field _ _ 1 (by omega)]; exact hc 1 _ rfl⟩

/-! #### struct type 69 -/
structure S69 where
  f0 : ByteArray
  f1 : ByteArray
def z69 : S69 := ⟨(⟨#[]⟩ : ByteArray), (⟨#[]⟩ : ByteArray)⟩
def k69 : Kd S69 := Kd.iso (Kd.pair Kd.string Kd.string) (fun x : S69 => (x.f0, x.f1))
theorem k69_open {w : World} {x : S69} {cs : List Value} (h : k69.K w x cs) : cs = [.string x.f0, .string x.f1] := by
  obtain ⟨_, _, rfl, rfl, rfl⟩ := h
  exact rfl
theorem k69_mkM (w : World) (base : Nat) (ok : Nat → Prop) (x : S69)  : k69.M w base ok x [.string x.f0, .string x.f1] := ⟨[.string x.f0], [.string x.f1], rfl, rfl, rfl⟩
def rd_T69 (xs : List S69) (i : Int) : S69 := xs.getD i.toNat z69
theorem at_T69 {w : World} {A : Option Addr} {n : Nat} {xs : List S69} (h : Kd.C k69 w A n xs) (i : Int) (h0 : 0 ≤ i) (h1 : i < n) : ∃ ad , A = some ad ∧ w.cell? (ad.add (i.toNat * 2)) = some (.string (rd_T69 xs i).f0) ∧ w.cell? ⟨(ad.add (i.toNat * 2)).block, (ad.add (i.toNat * 2)).off + 1, none⟩ = some (.string (rd_T69 xs i).f1) := by
  obtain ⟨ad, c, e, _, hK, hc0⟩ := Kd.C_get h z69 i h0 h1
  have hc : ∀ j u, c[j]? = some u → w.cell? (ad.add (i.toNat * 2 + j)) = some u := hc0
  obtain rfl := k69_open hK
  exact ⟨ad, e, hc 0 _ rfl, by rw [← add_field _ _ 1 (by omega)]; exact hc 1 _ rfl⟩

end Go.Proofs.YtgeamhmenmomhaaDoor.PT
