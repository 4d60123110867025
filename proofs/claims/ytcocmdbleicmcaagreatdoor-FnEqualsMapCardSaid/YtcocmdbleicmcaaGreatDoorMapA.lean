/- Walks: maps of texts: made of pairs, merged. -/
import Derived.Test.YtcocmdbleicmcaaGreatDoorPXx0
import Derived.Test.YtcocmdbleicmcaaGreatDoorOrd
import Derived.Test.YtcocmdbleicmcaaGreatDoorSM
import Derived.Lib.Hide
import Derived.Outline
namespace Go.Proofs.YtcocmdbleicmcaaGreatDoor.M
set_option linter.unusedVariables false
set_option linter.unusedSimpArgs false
set_option linter.unusedSectionVars false
open Go.RowKit Go.Proofs.YtcocmdbleicmcaaGreatDoorW.PrintWords Go.Proofs.YtcocmdbleicmcaaGreatDoorW.PrintLast Go.Proofs.YtcocmdbleicmcaaGreatDoor.PX Go.Proofs.YtcocmdbleicmcaaGreatDoor.SM

def putsP (l : List S89) : List (ByteArray × ByteArray) := l.foldl (fun m p => put m p.f0 p.f1) []
theorem putsP_next {l : List S89} {i : Nat} (h : i < l.length) : putsP (l.take (i + 1)) = put (putsP (l.take i)) (rd_T89 l i).f0 (rd_T89 l i).f1 := by
  have e : rd_T89 l i = l[i] := by simp [rd_T89, List.getD_eq_getElem?_getD, List.getElem?_eq_getElem h]
  rw [List.take_succ_eq_append_getElem h, putsP, List.foldl_append, e]
  rfl
set_option maxHeartbeats 2000000 in
theorem impl_pairs (A0 : Option Addr) (c0 : Nat) (l0 : List S89) (w : World) (hr0 : Kd.C k89 w A0 l0.length l0) (hc0 : l0.length ≤ c0) (hl : l0.length ≤ 1099511627776) :
    Calls Tryz.prog 66 #[.slice A0 l0.length c0] w fun e w' => ∃ b, e = .returned (.map (some b)) ∧ TMap w' b Value.string (putsP l0) ∧ w.heap.size ≤ b ∧ Below w.heap.size w w' := by
  have HR0 := Aside0.mk hr0
  clear hr0 hc0
  have hmm := fun (W : World) (n : Int) => run_makeHint (P := Tryz.prog) Tryz.underlying85 .i64 n W
  go_enter Tryz.func66, Tryz.ntmps66
  go_wp2
  go_loopw [11] (fun v11 wr => ∃ i : Nat, i ≤ l0.length ∧ v11 = .int .i64 i ∧ Aside0 (TMap wr w.heap.size Value.string (putsP (l0.take i))) ∧ Aside0 (Below w.heap.size w wr)) (fun v11 _ => l0.length - (intOf v11).toNat)
  case atStart => exact ⟨0, Nat.zero_le _, rfl, ⟨TMap.made _ _⟩, ⟨(Below.refl _ _).alloc (Nat.le_refl _) _⟩⟩
  case round =>
    obtain ⟨i, hi, rfl, HM, HB⟩ := hrel
    by_cases hlt : i < l0.length
    · obtain ⟨ad0, rfl, hx0, hx1⟩ := at_T89 HR0.out (i : Int) (by omega) (by omega)
      replace hx0 := (HB.out.cell (World.block_lt_of_cell? w _ hx0)).trans hx0
      replace hx1 := (HB.out.cell (World.block_lt_of_cell? w _ hx1)).trans hx1
      obtain ⟨x, hx⟩ : ∃ x, x = rd_T89 l0 i := ⟨_, rfl⟩
      rw [← hx] at hx0 hx1
      simp only [Int.toNat_natCast] at hx0 hx1
      have HX := Lib.hid hx
      clear hx
      go_wp2_with (at_mapUpdate; refine wp_put rfl _ _ _ rfl Tryz.underlying85 Tryz.underlying9 rfl (HM.out.below ?b1) x.f0 x.f1 rfl rfl (w0 := w) (B := w.heap.size) ?b2 (Nat.le_refl _) ?_; (case b1 => repeat (first | exact Below.refl _ _ | apply below_alloc)); (case b2 => repeat (first | (with_reducible first | exact HB.out | apply below_alloc) | exact HB.out)); intro w1 hm1 hb1 _ _; have HM1 := Aside0.mk hm1; have HB1 := Aside0.mk hb1; clear hm1 hb1)
      go_roundw
      case rel =>
        refine ⟨i + 1, by omega, by go_num, ⟨?_⟩, HB1⟩
        rw [putsP_next hlt, ← HX.out]
        exact HM1.out
      case measure => simp [intOf]; omega
    · go_wp2
      go_ret
      obtain rfl : i = l0.length := by omega
      rw [List.take_length] at HM
      exact ⟨_, rfl, HM.out, Nat.le_refl _, HB.out⟩

/-- Merge under way: rm is to come. -/
structure Mrg (m1 m2 rm m3 : List (ByteArray × ByteArray)) : Prop where
  sub : ∀ p, p ∈ rm → p ∈ m2
  mem : ∀ p, p ∈ m3 ↔ p ∈ m1 ∨ (p ∈ m2 ∧ p ∉ rm ∧ p.1 ∉ keys m1)
theorem Mrg.done {m1 m2 m3 : List (ByteArray × ByteArray)} (h : Mrg m1 m2 [] m3) (p : ByteArray × ByteArray) : p ∈ m3 ↔ p ∈ m1 ∨ (p ∈ m2 ∧ p.1 ∉ keys m1) := by
  rw [h.mem]; simp
theorem mem_of_key {m : List (ByteArray × ByteArray)} {k : ByteArray} (h : k ∈ keys m) : ∃ v, (k, v) ∈ m := by
  obtain ⟨p, hp, rfl⟩ := List.mem_map.1 h
  exact ⟨p.2, hp⟩
theorem key_uniq {m : List (ByteArray × ByteArray)} (hn : (keys m).Nodup) {p q : ByteArray × ByteArray} (hp : p ∈ m) (hq : q ∈ m) (e : p.1 = q.1) : p = q := by
  have h1 := look_mem hn hp
  have h2 := look_mem hn hq
  rw [e, h2] at h1
  injection h1 with h1
  exact Prod.ext e h1.symm
theorem Mrg.add {m1 m2 rm m3 : List (ByteArray × ByteArray)} (h : Mrg m1 m2 rm m3) (hn : (keys m2).Nodup) {q : ByteArray × ByteArray} (hq : q ∈ rm) (hk : has m3 q.1 = false) : Mrg m1 m2 (del rm q.1) (put m3 q.1 q.2) := by
  refine ⟨fun p hp => h.sub p ((mem_del p).1 hp).2, fun p => ?_⟩
  have hk := has_false.1 hk
  have hqk : q.1 ∉ keys m1 := fun h1 => by
    obtain ⟨v, hv⟩ := mem_of_key h1
    exact hk (List.mem_map_of_mem (f := (·.1)) ((h.mem _).2 (.inl hv)))
  rw [mem_put, h.mem]
  constructor
  · rintro (rfl | ⟨h0, h1 | ⟨h1, h2, h3⟩⟩)
    · exact .inr ⟨h.sub q hq, fun h4 => ((mem_del q).1 h4).1 rfl, hqk⟩
    · exact .inl h1
    · exact .inr ⟨h1, fun h4 => h2 ((mem_del p).1 h4).2, h3⟩
  · rintro (h1 | ⟨h1, h2, h3⟩)
    · exact .inr ⟨fun e => hqk (e ▸ List.mem_map_of_mem (f := (·.1)) h1), .inl h1⟩
    · by_cases e : p.1 = q.1
      · exact .inl (key_uniq hn h1 (h.sub q hq) e)
      · exact .inr ⟨e, .inr ⟨h1, fun h4 => h2 ((mem_del p).2 ⟨e, h4⟩), h3⟩⟩
end Go.Proofs.YtcocmdbleicmcaaGreatDoor.M
