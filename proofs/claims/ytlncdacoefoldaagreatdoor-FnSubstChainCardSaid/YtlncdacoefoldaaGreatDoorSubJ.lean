/- Walks: the thin package's substitution, where there is no fault; the known answer that each statement on it asks. -/
import Derived.Test.YtlncdacoefoldaaGreatDoorFitP
import Derived.Test.YtlncdacoefoldaaGreatDoorPXx7
import Derived.Test.YtlncdacoefoldaaGreatDoorSubO
import Derived.Test.YtlncdacoefoldaaGreatDoorSubC
namespace Go.Proofs.YtlncdacoefoldaaGreatDoor.U
set_option linter.unusedVariables false
set_option linter.unusedSimpArgs false
set_option linter.unusedSectionVars false
open Go.RowKit Go.Proofs.YtlncdacoefoldaaGreatDoorW.PrintWords Go.Proofs.YtlncdacoefoldaaGreatDoorW.PrintLast Go.Proofs.YtlncdacoefoldaaGreatDoor.PX Go.Proofs.YtlncdacoefoldaaGreatDoor.SM Go.Proofs.YtlncdacoefoldaaGreatDoor.L Go.Proofs.YtlncdacoefoldaaGreatDoor.M

abbrev SP := S59
abbrev IP := S44
def sI (x : SP) : IP := ⟨x.f0, x.f1⟩
theorem wrapS (i : Nat) (h : i < 4611686018427387904) : wrap64 ((i : Int) + 1) = ((i + 1 : Nat) : Int) := by unfold wrap64; omega
theorem to_l0 (l : List SP) (hl : l.length < 4398046511104) : ∀ n i, n = l.length - i → i ≤ l.length → laws_pairsTo.l0 (n + 1) l ((l.take i).map sI) (i : Int) = some (l.map sI)
  | 0, i, h, hi => by
    obtain rfl : i = l.length := by omega
    rw [List.take_length, laws_pairsTo.l0, if_neg (by omega)]
  | n + 1, i, h, hi => by
    have hlt : i < l.length := by omega
    rw [laws_pairsTo.l0, if_pos (by omega), if_pos (by omega), if_pos (by simp only [List.length_map, List.length_take]; omega), wrapS i (by omega)]
    have e : (l.take i).map sI ++ [(⟨(rd_T59 l i).f0, (rd_T59 l i).f1⟩ : IP)] = (l.take (i + 1)).map sI := by
      rw [List.take_succ_eq_append_getElem hlt, List.map_append, rd_get hlt]; rfl
    rw [e]
    exact to_l0 l hl n (i + 1) (by omega) (by omega)
theorem to_f (l : List SP) (hl : l.length < 4398046511104) : laws_pairsTo.f (l.length + 1) l = some (l.map sI) := by
  have := to_l0 l hl l.length 0 (by omega) (by omega)
  simpa [laws_pairsTo.f] using this
theorem fits4 (a b : ByteArray) : ∃ r, laws_zzFits4.f a b = some r := by
  unfold laws_zzFits4.f; split
  · exact ⟨_, rfl⟩
  · split <;> exact ⟨_, rfl⟩
theorem fits3_l0 (l : List SP) (hl : l.length ≤ 2147483647) : ∀ n i, n = l.length - i → i ≤ l.length → ∃ r, laws_zzFits3.l0 (n + 1) l (l.length : Int) (i : Int) = some r
  | 0, i, h, hi => by
    obtain rfl : i = l.length := by omega
    rw [laws_zzFits3.l0, if_neg (by omega)]; exact ⟨_, rfl⟩
  | n + 1, i, h, hi => by
    rw [laws_zzFits3.l0, if_pos (by omega), if_pos (by omega), if_pos (by omega), wrapS i (by omega)]
    obtain ⟨r, hr⟩ := fits4 (rd_T59 l i).f0 (rd_T59 l i).f1
    rw [hr]
    simp only [Option.bind_some]
    split
    · exact fits3_l0 l hl n (i + 1) (by omega) (by omega)
    · exact ⟨_, rfl⟩
theorem fits3 (l : List SP) : ∃ r, laws_zzFits3.f (l.length + 1) l = some r ∧ (r = true → l.length ≤ 2147483647) := by
  unfold laws_zzFits3.f
  split
  · exact ⟨_, rfl, fun h => by cases h⟩
  · obtain ⟨r, hr⟩ := fits3_l0 l (by omega) l.length 0 (by omega) (by omega)
    exact ⟨r, hr, fun _ => by omega⟩


/-- the environment of pairs -/
def envP (l : List IP) : Env := envOf (putsP l)
set_option maxHeartbeats 2000000 in
theorem impl_subst (A0 : Option Addr) (c0 : Nat) (l0 : List IP) (t r : Bs) (n : Nat) (w : World) (hr0 : Kd.C k44 w A0 l0.length l0) (hc0 : l0.length ≤ c0) (hl : l0.length ≤ 1099511627776) (ht : t.length < 1152921504606846976) (h : sub (envP l0) n t = some (r, none)) :
    Calls Tryz.prog 18 #[.string (mk t), .slice A0 l0.length c0] w fun e w' => e = .returned (.tuple #[.string (mk r), .int .i64 0]) ∧ Below w.heap.size w w' := by
  have H1 := Lib.hid (impl_look A0 c0 l0 w hr0 hc0 hl)
  have H2 := Lib.hid (fun p W hE => (subst_fine p (putsP l0) n).2 t (r, none) W ht (fine_ok h) hE)
  clear hr0 hc0 h ht
  go_enter Tryz.func18, Tryz.ntmps18
  go_wp2_with (first | (go_at_call 35; refine H1.out.mono ?_; rintro e w1 ⟨p, rfl, hE, hb⟩; have HE := Aside0.mk hE; have HB1 := Aside0.mk hb; clear hE hb) | (go_at_call 34; refine (H2.out p _ HE.out).mono ?_; rintro e w2 ⟨v, rfl, rfl, hb⟩; have HB2 := Aside0.mk (HB1.out.trans (hb.mono HB1.out.size)); clear hb))
  go_ret2
  exact ⟨rfl, HB2.out⟩
def liveP : List IP := [⟨⟨#[65]⟩, ⟨#[98]⟩⟩]
theorem live_env : envP liveP [65] = some [98] := by decide
theorem live_sub : sub (envP liveP) 2 [97, 36, 123, 65, 125] = some ([97, 98], none) := by
  have h0 : ∀ f : Bs → Ans, f [] = some ([], none) → repl f (envP liveP) [36, 123, 65, 125] = some ([98], none) := fun f _ => by
    have h1 : fb [36, 123, 65, 125] 0 false = some 3 := by decide
    have h2 : find [36, 123, 65, 125] = some ⟨[36, 123, 65, 125], [], [], [65], []⟩ := by decide
    have h3 : signOf [36, 123, 65, 125] = none := by decide
    simp [repl, h1, h2, h3, live_env]
  have ha : atM [36, 123, 65, 125] = some ⟨[36, 123, 65, 125], [], [], [65], []⟩ := by decide
  have h1 := h0 (sub (envP liveP) 1) (by simp [sub, scan])
  rw [sub, scan, atM_no _ (by decide), scan, ha]
  simp [h1, scan, LIM]
set_option maxHeartbeats 2000000 in
theorem laws_lives (w : World) :
    Calls Tryz.prog 16 #[] w fun e w' => e = .returned (.bool true) ∧ Below w.heap.size w w' := by
  have H := Lib.hid (fun A0 c0 (W : World) hr0 hc0 => impl_subst A0 c0 liveP [97, 36, 123, 65, 125] [97, 98] 2 W hr0 hc0 (by decide) (by decide) live_sub)
  have hml : (mk [97, 98]).toList = [97, 98] := mk_toList _
  go_enter Tryz.func16, Tryz.ntmps16
  go_wp2_with (first | (refine Kd.R_lit k44 (w0 := w) w.heap.size 44 rfl (N := 5) rfl (xs := liveP) (inner := [.string ⟨#[65]⟩, .string ⟨#[98]⟩]) (ok := fun _ => True) (okp := fun _ => True) ?hr ?hp (fun _ hk => hk) trivial ?hB ?hS (by simp [liveP]) ?_; (case hr => first | (go_simp; done) | (go_simp; rfl)); (case hp => exact Reps.snoc (ps := []) (cs := []) (Reps.none _ _) (k44_mkM _ _ _ _) rfl); (case hB => exact Below.refl _ _); (case hS => exact Nat.le_refl _); intro v5 w5 ho5 hb5 hg5 hn5; obtain ⟨A5, c5, rfl, hc5, hC5⟩ := Kd.R_reads ho5; have HC5 := Aside0.mk hC5; have HB5 := Aside0.mk hb5; have HL5 := Aside0.mk hc5; clear ho5 hb5 hg5 hn5 hC5 hc5) | (go_at_call 18; refine (H.out _ _ _ HC5.out HL5.out).mono ?_; rintro e w6 ⟨rfl, hb⟩; have HB6 := Aside0.mk (HB5.out.trans (hb.mono HB5.out.size)); clear hb))
  go_ret
  exact ⟨rfl, HB6.out⟩
end Go.Proofs.YtlncdacoefoldaaGreatDoor.U
