/- Walks: an environment: the map of its pairs, and the closure that asks it. -/
import Derived.Test.YtlncdacoefoldaaGreatDoorPXx0
import Derived.Test.YtlncdacoefoldaaGreatDoorSM
import Derived.Lib.Hide
import Derived.Outline
namespace Go.Proofs.YtlncdacoefoldaaGreatDoor.U
set_option linter.unusedVariables false
set_option linter.unusedSimpArgs false
set_option linter.unusedSectionVars false
open Go.RowKit Go.Proofs.YtlncdacoefoldaaGreatDoorW.PrintWords Go.Proofs.YtlncdacoefoldaaGreatDoorW.PrintLast Go.Proofs.YtlncdacoefoldaaGreatDoor.PX Go.Proofs.YtlncdacoefoldaaGreatDoor.SM

theorem zeroStr (w : World) : (zeroValue 9).run Tryz.prog w = .ok (.string ⟨#[]⟩) w := by kernel_rfl
def putsP (l : List S44) : List (ByteArray × ByteArray) := l.foldl (fun m p => put m p.f0 p.f1) []
theorem putsP_next {l : List S44} {i : Nat} (h : i < l.length) : putsP (l.take (i + 1)) = put (putsP (l.take i)) (rd_T44 l i).f0 (rd_T44 l i).f1 := by
  have e : rd_T44 l i = l[i] := by simp [rd_T44, List.getD_eq_getElem?_getD, List.getElem?_eq_getElem h]
  rw [List.take_succ_eq_append_getElem h, putsP, List.foldl_append, e]
  rfl
set_option maxHeartbeats 2000000 in
theorem impl_pairs (A0 : Option Addr) (c0 : Nat) (l0 : List S44) (w : World) (hr0 : Kd.C k44 w A0 l0.length l0) (hc0 : l0.length ≤ c0) (hl : l0.length ≤ 1099511627776) :
    Calls Tryz.prog 51 #[.slice A0 l0.length c0] w fun e w' => ∃ b, e = .returned (.map (some b)) ∧ TMap w' b Value.string (putsP l0) ∧ w.heap.size ≤ b ∧ Below w.heap.size w w' := by
  have HR0 := Aside0.mk hr0
  clear hr0 hc0
  have hmm := fun (W : World) (n : Int) => run_makeHint (P := Tryz.prog) Tryz.underlying95 .i64 n W
  go_enter Tryz.func51, Tryz.ntmps51
  go_wp2
  go_loopw [11] (fun v11 wr => ∃ i : Nat, i ≤ l0.length ∧ v11 = .int .i64 i ∧ Aside0 (TMap wr w.heap.size Value.string (putsP (l0.take i))) ∧ Aside0 (Below w.heap.size w wr)) (fun v11 _ => l0.length - (intOf v11).toNat)
  case atStart => exact ⟨0, Nat.zero_le _, rfl, ⟨TMap.made _ _⟩, ⟨(Below.refl _ _).alloc (Nat.le_refl _) _⟩⟩
  case round =>
    obtain ⟨i, hi, rfl, HM, HB⟩ := hrel
    by_cases hlt : i < l0.length
    · obtain ⟨ad0, rfl, hx0, hx1⟩ := at_T44 HR0.out (i : Int) (by omega) (by omega)
      replace hx0 := (HB.out.cell (World.block_lt_of_cell? w _ hx0)).trans hx0
      replace hx1 := (HB.out.cell (World.block_lt_of_cell? w _ hx1)).trans hx1
      obtain ⟨x, hx⟩ : ∃ x, x = rd_T44 l0 i := ⟨_, rfl⟩
      rw [← hx] at hx0 hx1
      simp only [Int.toNat_natCast] at hx0 hx1
      have HX := Lib.hid hx
      clear hx
      go_wp2_with (at_mapUpdate; refine wp_put rfl _ _ _ rfl Tryz.underlying95 Tryz.underlying9 rfl (HM.out.below ?b1) x.f0 x.f1 rfl rfl (w0 := w) (B := w.heap.size) ?b2 (Nat.le_refl _) ?_; (case b1 => repeat (first | exact Below.refl _ _ | apply below_alloc)); (case b2 => repeat (first | (with_reducible first | exact HB.out | apply below_alloc) | exact HB.out)); intro w1 hm1 hb1 _ _; have HM1 := Aside0.mk hm1; have HB1 := Aside0.mk hb1; clear hm1 hb1)
      go_roundw
      case rel =>
        refine ⟨i + 1, by omega, by go_num, ⟨?_⟩, HB1⟩
        rw [putsP_next hlt, ← HX.out]
        exact HM1.out
      case measure => simp [intOf]; omega
    · go_wp2
      go_ret
      obtain rfl : i = l0.length := by omega
      rw [List.take_length] at HM
      exact ⟨_, rfl, HM.out, Nat.le_refl _, HB.out⟩


/-- The environment stands behind the box p. -/
def EnvAt (w : World) (p : Nat) (E : List (ByteArray × ByteArray)) : Prop := ∃ b, w.heap[p]? = some (.cells #[.map (some b)] 95 (0, 0)) ∧ TMap w b Value.string E
theorem EnvAt.lt {w : World} {p : Nat} {E : List (ByteArray × ByteArray)} (h : EnvAt w p E) : p < w.heap.size := by
  obtain ⟨b, h1, _⟩ := h
  rcases Nat.lt_or_ge p w.heap.size with q | q
  · exact q
  · rw [Array.getElem?_eq_none q] at h1; cases h1
theorem EnvAt.below {w w' : World} {p : Nat} {E : List (ByteArray × ByteArray)} (h : EnvAt w p E) (hb : Below w.heap.size w w') : EnvAt w' p E := by
  have hp := h.lt
  obtain ⟨b, h1, h2⟩ := h
  exact ⟨b, (hb.block p hp).trans h1, h2.below hb⟩
/-- from an older world -/
theorem EnvAt.keep {B : Nat} {w w' : World} {p : Nat} {E : List (ByteArray × ByteArray)} (h : EnvAt w p E) (hB : w.heap.size ≤ B) (hb : Below B w w') : EnvAt w' p E := by
  have hp := h.lt
  obtain ⟨b, h1, h2⟩ := h
  have hbl := h2.lt
  exact ⟨b, (hb.block p (by omega)).trans h1, SMap.move h2 (hb.block b (by omega))⟩
theorem has_look {E : List (ByteArray × ByteArray)} {k : ByteArray} : has E k = (SM.look E k).isSome := by
  cases h : SM.look E k with
  | none => exact look_none.1 h
  | some v => exact (look_some h).2
theorem look1 (p : Nat) (E : List (ByteArray × ByteArray)) (k : ByteArray) (w : World) (h : EnvAt w p E) :
    Calls Tryz.prog 52 #[.string k, .pointer (some ⟨p, 0, none⟩)] w fun e w' => e = .returned (.tuple #[.string ((SM.look E k).getD ⟨#[]⟩), .bool (SM.look E k).isSome]) ∧ w = w' := by
  obtain ⟨b, h1, h2⟩ := h
  have hze := zeroStr w
  have hc : w.cell? ⟨p, 0, none⟩ = some (.map (some b)) := by simp [World.cell?, h1]
  have H2 := Aside0.mk h2
  clear h1 h2
  obtain ⟨o, ho⟩ : ∃ o, o = SM.look E k := ⟨_, rfl⟩
  have HO := Lib.hid ho
  rw [← ho]
  clear ho
  go_enter Tryz.func52, Tryz.ntmps52
  go_wp2_with (at_lookup; refine wp_look rfl _ _ true rfl Tryz.underlying95 Tryz.underlying9 rfl H2.out k rfl hze ?_; rw [if_pos rfl, has_look, ← HO.out]; simp only [Option.map_some, Option.map_none, Option.getD_some, Option.getD_none])
  go_ret2
  exact ⟨by cases o <;> rfl, rfl⟩
theorem impl_look (A0 : Option Addr) (c0 : Nat) (l0 : List S44) (w : World) (hr0 : Kd.C k44 w A0 l0.length l0) (hc0 : l0.length ≤ c0) (hl : l0.length ≤ 1099511627776) :
    Calls Tryz.prog 35 #[.slice A0 l0.length c0] w fun e w' => ∃ p, e = .returned (.func (.func 52) #[] #[.pointer (some ⟨p, 0, none⟩)]) ∧ EnvAt w' p (putsP l0) ∧ Below w.heap.size w w' := by
  have H1 := Lib.hid (impl_pairs A0 c0 l0 w hr0 hc0 hl)
  clear hr0 hc0
  go_enter Tryz.func35, Tryz.ntmps35
  go_wp2_with (go_at_call 51; refine H1.out.mono ?_; rintro e w1 ⟨b, rfl, hm, hbb, hb⟩; have HM := Aside0.mk hm; have HB := Aside0.mk hb; clear hm hb hbb)
  go_ret
  exact ⟨_, rfl, ⟨b, (MapKept.heap_alloc w1 _).1, HM.out.below ((Below.refl _ _).alloc (Nat.le_refl _) _)⟩, HB.out.alloc HB.out.size _⟩
end Go.Proofs.YtlncdacoefoldaaGreatDoor.U
