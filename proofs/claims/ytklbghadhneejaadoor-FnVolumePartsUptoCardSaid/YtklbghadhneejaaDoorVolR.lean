/- The row of the law 'VolumeParts' where what it reads is of bulk at most 1048576 (the tied card). -/
import Derived.Test.YtklbghadhneejaaDoorVolP
import Derived.Test.YtklbghadhneejaaDoorLaw
import Derived.Test.YtklbghadhneejaaDoorBulk
import Derived.Test.YtklbghadhneejaaDoorCards
import Derived.Test.YtklbghadhneejaaDoorTie
import Derived.Deep.DeepHandedRow
import Derived.Lib.LaidTab
import Derived.ProofKit
import Derived.OpenShut
import Derived.LaidMore
import Derived.Lay
import Derived.SevenTiedAt
import Derived.Stop.Joined
import Derived.JoinedCond
namespace Go.Proofs.YtklbghadhneejaaDoor.VolumePartsRow
set_option linter.unusedVariables false
set_option linter.unusedSimpArgs false
set_option linter.unusedSectionVars false
open Go.ChangeShapes Go.WideShapes Go.ChangeAt Go.RowKit Go.Proofs.YtklbghadhneejaaDoor.L Go.Proofs.YtklbghadhneejaaDoor.V Go.Proofs.YtklbghadhneejaaDoorW.PrintWords
open Go.ChangeMaps (open_string shut_string)

theorem own : ownKnob Tryd.prog.godebug = none := by kernel_rfl
theorem C_of_SS {w : World} {v : Value} {l : List ByteArray} (h : SS w v l) : ∃ A c, v = .slice A l.length c ∧ l.length ≤ c ∧ Kd.C Kd.string w A l.length l := by
  obtain ⟨A, c, rfl, h1, h2, h3⟩ := h.get
  refine ⟨A, c, rfl, h1, rfl, by unfold maxLen at h2; omega, fun hp => ?_⟩
  obtain ⟨b, o, rfl, hb, hc⟩ := h3 hp
  refine ⟨_, rfl, fun j p hj => ⟨[.string p], rfl, rfl, fun i u hu => ?_⟩⟩
  have hi : i = 0 := by
    have := (List.getElem?_eq_some_iff.1 hu).1
    simpa using this
  subst hi
  have hj' := (List.getElem?_eq_some_iff.1 hj).1
  have hq := hc j hj'
  rw [List.getD_eq_getElem?_getD, hj] at hq
  injection hu with hu
  rw [← hu]
  have e : (⟨b, o, none⟩ : Addr).add (j * 1 + 0) = ⟨b, o + j, none⟩ := by
    unfold Addr.add
    split
    · next h => have : j = 0 := by omega
                subst this; rfl
    · next h => simp
  show w.cell? ((⟨b, o, none⟩ : Addr).add (j * 1 + 0)) = _
  rw [e]
  exact hq
theorem bulk_text {H : Type} (a : ByteArray) : Rows.uptoBulk (DataW.lit (H := H) (.string a.data.toList)) = a.size + 1 := by
  simp only [Rows.uptoBulk]
  rw [Lib.size_eq]
set_option maxRecDepth 100000 in
theorem contract (H : Type) (enc : TypeId × Value → H) (W : World) (base : Nat) (args : Array Value) (ds gs : List (DataW H)) (before : List MemPlace)
    (hval0 : ∀ (j : Nat) t v, Tryd.f3.params[j]? = some t → args[j]? = some v → Value.okWide Tryd.prog W .any base t v)
    (hW : DataW.Whole enc Tryd.prog Tryd.f3.params.toList Rows.fnVolumePartsSpec.vars false W args.toList ds gs before) (hk : Rows.uptoSmall H (ds ++ gs) = true) :
    Calls Tryd.prog 3 args W fun e W' => ∃ v, e = .returned v ∧ Rows.fnVolumePartsSpec.post enc Tryd.prog Tryd.f3 false true false false W args v W' := by
  have hval : ∀ (j : Nat) t v, Tryd.f3.params[j]? = some t → args[j]? = some v → Value.okWide Tryd.prog W .any base t v := hval0
  have hW' := hW
  obtain ⟨p, q, hA0, hV, rfl, hfz, hnd⟩ := hW
  have hA : DataW.TrodAll enc Tryd.prog W 0 (fun _ => true) true Tryd.f3.params.toList args.toList ds p := hA0
  rw [Tryd.params3] at hA hval
  obtain ⟨v0, vs0, d0, ds0, p0, q0, hargs, rfl, rfl, h0, r0⟩ := trodAll_cons hA
  obtain ⟨v1, vs1, d1, ds1, p1, q1, rfl, rfl, rfl, h1, r1⟩ := trodAll_cons r0
  obtain ⟨v2, vs2, d2, ds2, p2, q2, rfl, rfl, rfl, h2, r2⟩ := trodAll_cons r1
  obtain ⟨rfl, rfl, rfl⟩ := trodAll_nil r2
  obtain rfl : args = #[v0, v1, v2] := by cases args; simp_all
  obtain ⟨rfl, rfl⟩ := trodVars_none hV
  obtain ⟨a0, rfl, e0, _, w0⟩ := open_string Tryd.underlying9 (hval 0 9 v0 rfl rfl) h0
  obtain ⟨a1, rfl, e1, _, w1⟩ := open_string Tryd.underlying9 (hval 1 9 v1 rfl rfl) h1
  obtain ⟨l, hl, hb⟩ := ss_of_trod_bulk Tryd.underlying22 Tryd.underlying9 (by kernel_rfl) h2 (okWide_slice Tryd.underlying22 (hval 2 22 v2 rfl rfl))
  have hk' := bulk_all hk
  have e2 : Rows.uptoBulkAll ([d0, d1, d2] ++ []) = Rows.uptoBulk d0 + (Rows.uptoBulk d1 + Rows.uptoBulk d2) := by simp [Rows.uptoBulkAll]
  rw [e2, e0, e1, bulk_text, bulk_text] at hk'
  obtain ⟨A2, c2, rfl, hc2, hr2⟩ := C_of_SS hl
  clear hA0 hval0 hl
  refine (law_VolumeParts a0 a1 A2 c2 l W hr2 hc2 (by omega) (by omega) (by omega)).mono fun e W' ⟨he, hb⟩ => ?_
  subst he
  exact ⟨_, rfl, law_post (tb := 4) (by kernel_rfl) (by decide +kernel) (by kernel_rfl) Tryd.underlying4 rfl hW' rfl hb⟩
set_option maxRecDepth 100000 in
theorem witness (os : Os) (H : Type) (enc : TypeId × Value → H) :
    ∃ (w : World) (tape : Tape) (i : Input), w.os = os ∧ (w.forCall tape i).Shaped Tryd.prog ∧ i.vars = [] ∧ Input.okWide Tryd.prog (w.forCall tape i) .any w.heap.size 3 i ∧
      Rows.fnVolumePartsUptoRow.pre enc Tryd.prog Tryd.f3 (Rows.OpenSpec.upto Rows.fnVolumePartsSpec) (w.forCall tape i).memory i.args ∧ ({} : Assume).holds Tryd.prog (lone (Frame.enter Tryd.prog 3 i.args .normal) [] (w.forCall tape i)) := by
  have hok : Input.okWideB Tryd.prog ((World.laidAll Tryd.prog os Rows.fnVolumePartsUptoRow.laid).forCall (fun _ _ => 0) ⟨#[], #[.string ByteArray.empty, .string ByteArray.empty, .slice none 0 0], []⟩) 3 ⟨#[], #[.string ByteArray.empty, .string ByteArray.empty, .slice none 0 0], []⟩ = true := by kernel_rfl
  have hx : DataW.whole enc Tryd.prog ((World.laidAll Tryd.prog os Rows.fnVolumePartsUptoRow.laid).forCall (fun _ _ => 0) ⟨#[], #[.string ByteArray.empty, .string ByteArray.empty, .slice none 0 0], []⟩).memory Tryd.f3.params.toList (Rows.OpenSpec.upto Rows.fnVolumePartsSpec).vars false [.string ByteArray.empty, .string ByteArray.empty, .slice none 0 0] 8 = some ([.lit (.string []), .lit (.string []), .nil], [], []) := by kernel_rfl
  have hsz : Rows.fnVolumePartsSpec.sizedB enc Tryd.prog Tryd.f3 Rows.fnVolumePartsUptoRow.apart ((World.laidAll Tryd.prog os Rows.fnVolumePartsUptoRow.laid).forCall (fun _ _ => 0) ⟨#[], #[.string ByteArray.empty, .string ByteArray.empty, .slice none 0 0], []⟩).memory #[.string ByteArray.empty, .string ByteArray.empty, .slice none 0 0] 8 = true := by kernel_rfl
  have hl : laidMetH Tryd.prog Rows.fnVolumePartsUptoRow.laid ((World.laidAll Tryd.prog os Rows.fnVolumePartsUptoRow.laid).forCall (fun _ _ => 0) ⟨#[], #[.string ByteArray.empty, .string ByteArray.empty, .slice none 0 0], []⟩).memory := by
    rw [MakeChecks.laidMetH_plain _ _ _ (by kernel_rfl)]; exact laidMet_laidAll _ (by kernel_rfl) (by kernel_rfl)
  refine ⟨World.laidAll Tryd.prog os Rows.fnVolumePartsUptoRow.laid, fun _ _ => 0, ⟨#[], #[.string ByteArray.empty, .string ByteArray.empty, .slice none 0 0], []⟩, World.laidAll_os _ _ _, World.shaped_of_ZipB (by kernel_rfl) (by kernel_rfl), (Input.okWide_of_okWideB (base := 0) hok).1, (Input.okWide_of_okWideB hok).2, ⟨⟨?_, hl⟩, sizedMet_of_sizedB (fuel := 8) hsz⟩, ?_⟩
  · exact (OpenSpec.pre_some rfl _ _ _ _).2 ⟨_, _, _, DataW.Whole_of_whole hx, rfl, by kernel_rfl⟩
  · simp only [Assume.holds]
    exact ⟨by simp, by simp, fun _ => Modest.zero, by simp, by simp⟩
theorem lifted (os : Os) (started : os.Started) (H : Type) (enc : TypeId × Value → H) (F : Stop.Interp) :
    ReturnsInHanded {} Tryd.checked os 3 .any (Rows.fnVolumePartsUptoRow.pre enc Tryd.prog Tryd.f3 (Rows.OpenSpec.upto Rows.fnVolumePartsSpec))
      (((Rows.OpenSpec.upto Rows.fnVolumePartsSpec).at F).post enc Tryd.prog Tryd.f3 false true false false) := by
  refine returnsInHanded_of_calls (C := Tryd.checked) own started (by kernel_rfl) (witness os H enc) ?_
  intro w tape i _ _ _ hok hpre _
  obtain ⟨_, _, _, fn', hfn', _, _, _, _, hval⟩ := hok
  have e : fn' = Tryd.f3 := Option.some.inj (hfn'.symm.trans Tryd.func3)
  subst e
  obtain ⟨ds, gs, before, hw, hc, hkk⟩ := (OpenSpec.pre_some (k := Rows.uptoSmall) rfl _ _ _ _).1 hpre.1.1
  have hw' := DataW.Whole.of_heap (w' := w.forCall tape i) (by rfl) hw
  refine (contract H enc (w.forCall tape i) w.heap.size i.args ds gs before hval hw' hkk).mono fun e W' ⟨v, he, hp⟩ => ?_
  subst he
  exact ChangeSpec.post_blind hp
theorem said : Rows.fnVolumePartsUptoRow.holds Tryd.pinned (Rows.OpenSpec.upto Rows.fnVolumePartsSpec) :=
  OpenClaim.holds_of_cond 3 Tryd.f3 rfl rfl rfl rfl rfl rfl rfl ⟨rfl, rfl, rfl, rfl, rfl⟩ rfl rfl rfl rfl rfl (by kernel_rfl) Tryd.func3 (by kernel_rfl)
    (of_decide_eq_true (by kernel_rfl)) (by unfold Func.isWrapper; first | (rw [if_pos (by decide +kernel)]; kernel_rfl) | (rw [if_neg (by decide +kernel)]; exact ⟨rfl, rfl⟩))
    (fun os started H enc _ F => lifted os started H enc F)
theorem plain (f : FuncId) (fn : Func) (hf : Tryd.pinned.checked.prog.funcNamed "pub-shipwright/laws.FnVolumeParts" = some f) (hfn : Tryd.pinned.checked.prog.funcs[f]? = some fn) :
    false = Tryd.pinned.checked.prog.looks [] ∧ ∀ (j : Nat) t, fn.params[j]? = some t → Tryd.pinned.checked.prog.wantsStandIn t = false := by
  obtain rfl : f = 3 := Option.some.inj ((show Tryd.prog.funcNamed "pub-shipwright/laws.FnVolumeParts" = some 3 by kernel_rfl).symm.trans hf) |>.symm
  obtain rfl : fn = Tryd.f3 := (Option.some.inj (Tryd.func3.symm.trans hfn)).symm
  refine ⟨by kernel_rfl, fun j t ht => ?_⟩
  rw [Tryd.params3] at ht
  have hm := Array.mem_of_getElem? ht
  simp only [List.mem_toArray, List.mem_cons, List.not_mem_nil, or_false] at hm
  rcases hm with rfl | rfl | rfl
  all_goals first | exact (show Tryd.prog.wantsStandIn 9 = false by kernel_rfl) | exact (show Tryd.prog.wantsStandIn 22 = false by kernel_rfl)
theorem card : Rows.FnVolumePartsUptoCardSaid :=
  Claim7.holds_tied_plain_at .later [] _ _ _ _ said (fun _ h => by cases h) (by kernel_rfl) (fun _ h => by cases h) fnVolumePartsUpto_row_tie rfl ⟨rfl, rfl⟩ (by kernel_rfl) rfl plain (by kernel_rfl)
end Go.Proofs.YtklbghadhneejaaDoor.VolumePartsRow
namespace Go.Proofs.YtklbghadhneejaaDoor
theorem volumeParts_uptoCard : Rows.FnVolumePartsUptoCardSaid := VolumePartsRow.card
#print axioms volumeParts_uptoCard
end Go.Proofs.YtklbghadhneejaaDoor
