/- Walks: maps out of texts NAME=VALUE, and the known answers that each statement on mappings asks. -/
import Derived.Test.YtcocmdbleicmcaaGreatDoorTold
import Derived.Test.YtcocmdbleicmcaaGreatDoorPXx4
import Derived.Test.YtcocmdbleicmcaaGreatDoorPXx5
import Derived.Test.YtcocmdbleicmcaaGreatDoorPXx9
import Derived.Lib.AppendIntMem
namespace Go.Proofs.YtcocmdbleicmcaaGreatDoor.M
set_option linter.unusedVariables false
set_option linter.unusedSimpArgs false
set_option linter.unusedSectionVars false
open Go.RowKit Go.Proofs.YtcocmdbleicmcaaGreatDoorW.PrintWords Go.Proofs.YtcocmdbleicmcaaGreatDoorW.PrintLast Go.Proofs.YtcocmdbleicmcaaGreatDoor.PX Go.Proofs.YtcocmdbleicmcaaGreatDoor.SM

theorem add_zero_cell {w : World} {a : Addr} {v : Value} (h : w.cell? (a.add 0) = some v) : w.cell? a = some v := by simpa [Addr.add] using h
theorem add_one_cell {w : World} {a : Addr} {v : Value} (h : w.cell? (a.add 1) = some v) : w.cell? ⟨a.block, a.off + 1, none⟩ = some v := by simpa [Addr.add] using h
def partsOf (x : ByteArray × Option ByteArray) : List ByteArray := x.1 :: x.2.toList
def putsC (sp : ByteArray → ByteArray × Option ByteArray) (l : List ByteArray) : List (ByteArray × ByteArray) := l.foldl (fun m s => put m (sp s).1 ((sp s).2.getD ⟨#[]⟩)) []
theorem putsC_next {sp : ByteArray → ByteArray × Option ByteArray} {l : List ByteArray} {i : Nat} (h : i < l.length) : putsC sp (l.take (i + 1)) = put (putsC sp (l.take i)) (sp (l.getD i ByteArray.empty)).1 ((sp (l.getD i ByteArray.empty)).2.getD ⟨#[]⟩) := by
  have e : l.getD i ByteArray.empty = l[i] := by simp [List.getD_eq_getElem?_getD, List.getElem?_eq_getElem h]
  rw [List.take_succ_eq_append_getElem h, putsC, List.foldl_append, e]
  rfl
set_option maxRecDepth 100000 in
set_option maxHeartbeats 2000000 in
theorem types_NewMapping (A0 : Option Addr) (c0 : Nat) (l0 : List ByteArray) (w : World) (hr0 : Kd.C Kd.string w A0 l0.length l0) (hc0 : l0.length ≤ c0) (hl : l0.length ≤ 1099511627776) (sp : ByteArray → ByteArray × Option ByteArray)
    (hsp : ∀ s ∈ l0, ∃ k, types_zzSplitTwo.f k s ⟨#[61]⟩ = some (partsOf (sp s))) :
    Calls Tryz.prog 89 #[.slice A0 l0.length c0] w fun e w' => ∃ b, e = .returned (.map (some b)) ∧ TMap w' b Value.string (putsC sp l0) ∧ w.heap.size ≤ b ∧ Below w.heap.size w w' := by
  have HR0 := Aside0.mk hr0
  have HSP := Aside0.mk hsp
  clear hr0 hc0 hsp
  have hmm := @run_makeMap Tryz.prog
  go_enter Tryz.func89, Tryz.ntmps89
  go_wp2
  go_loopw [11] (fun v11 wr => ∃ i : Nat, i ≤ l0.length ∧ v11 = .int .i64 i ∧ Aside0 (TMap wr w.heap.size Value.string (putsC sp (l0.take i))) ∧ Aside0 (Below w.heap.size w wr)) (fun v11 _ => l0.length - (intOf v11).toNat)
  case atStart => exact ⟨0, Nat.zero_le _, rfl, ⟨TMap.made _ _⟩, ⟨(Below.refl _ _).alloc (Nat.le_refl _) _⟩⟩
  case round =>
    obtain ⟨i, hi, rfl, HM, HB⟩ := hrel
    by_cases hlt : i < l0.length
    · obtain ⟨ad0, rfl, hx0⟩ := Kd.at_string HR0.out (i : Int) (by omega) (by omega)
      replace hx0 := (HB.out.cell (World.block_lt_of_cell? w _ hx0)).trans hx0
      simp only [Int.toNat_natCast] at hx0
      obtain ⟨s, hs⟩ : ∃ s, s = l0.getD i ByteArray.empty := ⟨_, rfl⟩
      have hs' : rdOf ByteArray.empty l0 (i : Int) = s := by rw [hs]; rfl
      rw [hs'] at hx0
      have hmem : s ∈ l0 := by rw [hs, List.getD_eq_getElem?_getD, List.getElem?_eq_getElem hlt]; exact List.getElem_mem hlt
      obtain ⟨kq, hkq⟩ := HSP.out s hmem
      have HK := Aside0.mk hkq
      have HS := Lib.hid hs
      clear hs hs' hmem hkq
      obtain ⟨sa, sb, hsab⟩ : ∃ sa sb, sp s = (sa, sb) := ⟨_, _, rfl⟩
      rw [hsab] at HK
      have HSA := Lib.hid hsab
      clear hsab
      cases sb with
      | none =>
        go_wp2_with (first | (go_at_call 92; refine (types_zzSplitTwo.calls kq s ⟨#[61]⟩ [sa] _ HK.out).mono ?_; rintro e w1 ⟨v0, rfl, ho, hb⟩; obtain ⟨A1, c1, rfl, hl1, hC1⟩ := Kd.R_reads ho; obtain ⟨ad1, rfl, hy0⟩ := Kd.at_string hC1 0 (Int.le_refl 0) (by simp); replace hy0 : w1.cell? ad1 = some (.string sa) := add_zero_cell hy0; have HB1 := Aside0.mk (below_then HB.out HB.out.size hb); have HM1 := Aside0.mk (HM.out.below hb); clear ho hb hC1) | (at_mapUpdate; refine wp_put rfl _ _ _ rfl Tryz.underlying86 Tryz.underlying9 rfl HM1.out sa (⟨#[]⟩ : ByteArray) rfl rfl HB1.out (Nat.le_refl _) ?_; intro w2 hm2 hb2 _ _; have HM2 := Aside0.mk hm2; have HB2 := Aside0.mk hb2; clear hm2 hb2))
        go_roundw
        case rel =>
          refine ⟨i + 1, by omega, by go_num, ⟨?_⟩, HB2⟩
          rw [putsC_next hlt, ← HS.out, HSA.out]
          exact HM2.out
        case measure => simp [intOf]; omega
      | some sb =>
        go_wp2_with (first | (go_at_call 92; refine (types_zzSplitTwo.calls kq s ⟨#[61]⟩ [sa, sb] _ HK.out).mono ?_; rintro e w1 ⟨v0, rfl, ho, hb⟩; obtain ⟨A1, c1, rfl, hl1, hC1⟩ := Kd.R_reads ho; obtain ⟨ad1, rfl, hy0⟩ := Kd.at_string hC1 0 (Int.le_refl 0) (by simp); obtain ⟨ad2, e2, hy1⟩ := Kd.at_string hC1 1 (by decide) (by simp); injection e2 with e2; subst e2; replace hy0 : w1.cell? ad1 = some (.string sa) := add_zero_cell hy0; replace hy1 : w1.cell? ⟨ad1.block, ad1.off + 1, none⟩ = some (.string sb) := add_one_cell hy1; have HB1 := Aside0.mk (below_then HB.out HB.out.size hb); have HM1 := Aside0.mk (HM.out.below hb); clear ho hb hC1) | (at_mapUpdate; refine wp_put rfl _ _ _ rfl Tryz.underlying86 Tryz.underlying9 rfl HM1.out sa sb rfl rfl HB1.out (Nat.le_refl _) ?_; intro w2 hm2 hb2 _ _; have HM2 := Aside0.mk hm2; have HB2 := Aside0.mk hb2; clear hm2 hb2))
        go_roundw
        case rel =>
          refine ⟨i + 1, by omega, by go_num, ⟨?_⟩, HB2⟩
          rw [putsC_next hlt, ← HS.out, HSA.out]
          exact HM2.out
        case measure => simp [intOf]; omega
    · go_wp2
      go_ret
      obtain rfl : i = l0.length := by omega
      rw [List.take_length] at HM
      exact ⟨_, rfl, HM.out, Nat.le_refl _, HB.out⟩

theorem impl_NewMapping (A0 : Option Addr) (c0 : Nat) (l0 : List ByteArray) (w : World) (hr0 : Kd.C Kd.string w A0 l0.length l0) (hc0 : l0.length ≤ c0) (hl : l0.length ≤ 1099511627776) (sp : ByteArray → ByteArray × Option ByteArray)
    (hsp : ∀ s ∈ l0, ∃ k, types_zzSplitTwo.f k s ⟨#[61]⟩ = some (partsOf (sp s))) (hpl : (putsC sp l0).length ≤ 1099511627776) :
    Calls Tryz.prog 58 #[.slice A0 l0.length c0] w fun e w' => ∃ v l, e = .returned v ∧ Kd.R k89 89 w' w.heap.size (fun _ => True) v l ∧ Ord.Asc S89.f0 l ∧ (l.map tpI).Perm (putsC sp l0) ∧ Below w.heap.size w w' := by
  have h1 := types_NewMapping A0 c0 l0 w hr0 hc0 hl sp hsp
  have H1 := Lib.hid h1
  have HPL := Lib.hid hpl
  clear h1 hr0 hc0 hsp hpl
  go_enter Tryz.func58, Tryz.ntmps58
  go_wp2_with (first | (go_at_call 89; refine H1.out.mono ?_; rintro e w1 ⟨b, rfl, hm, hbb, hb⟩; have HM := Aside0.mk hm; have HB := Aside0.mk hb; clear hm hb) | (go_at_call 65; refine (impl_told _ _ _ HM.out HPL.out).mono ?_; rintro e w2 ⟨v, l, rfl, ho, ha, hp, hb2⟩; have HO := Aside0.mk ho; have HA := Aside0.mk ha; have HP := Aside0.mk hp; have HB2 := Aside0.mk hb2; clear ho ha hp hb2))
  go_ret
  exact ⟨v, l, rfl, Kd.R_lower HO.out HB.out.size, HA.out, HP.out, below_then HB.out HB.out.size HB2.out⟩
theorem true_ascii : ∀ (j : Nat) (b : UInt8), (⟨#[116, 114, 117, 101]⟩ : ByteArray).data.toList[j]? = some b → b.toNat < 128 := by
  intro j b h
  have := List.mem_of_getElem? h
  simp at this
  rcases this with rfl | rfl | rfl | rfl <;> decide
theorem utils_StringToBool (w : World) (htab : Lib.TabIs Tryz.prog w "strings.asciiSpace" .u8 Lib.asciiSpaceTab) :
    Calls Tryz.prog 90 #[.string ⟨#[116, 114, 117, 101]⟩] w fun e w' => e = .returned (.bool true) ∧ Below w.heap.size w w' := by
  have h1 := Tryz.strings_TrimSpace ⟨#[116, 114, 117, 101]⟩ w (by decide) true_ascii htab
  have e1 : (⟨(Lib.trimSpace (⟨#[116, 114, 117, 101]⟩ : ByteArray).data.toList).toArray⟩ : ByteArray) = ⟨#[116, 114, 117, 101]⟩ := by kernel_rfl
  rw [e1] at h1
  have h2 := fun W => Tryz.strings_ToLower_ascii ⟨#[116, 114, 117, 101]⟩ W (by decide) true_ascii
  have e2 : (⟨(Lib.toLowerA (⟨#[116, 114, 117, 101]⟩ : ByteArray).data.toList).toArray⟩ : ByteArray) = ⟨#[116, 114, 117, 101]⟩ := by kernel_rfl
  rw [e2] at h2
  have h3 := fun W => Tryz.strconv_ParseBool ⟨#[116, 114, 117, 101]⟩ true (by kernel_rfl) W
  have H1 := Lib.hid h1
  have H2 := Lib.hid h2
  have H3 := Lib.hid h3
  clear h1 h2 h3 e1 e2
  go_enter Tryz.func90, Tryz.ntmps90
  go_wp2_with (first | (go_at_call 109; refine H1.out.mono ?_; rintro e w1 ⟨rfl, hw1⟩; have HB1 := Aside0.mk (show Below w.heap.size w w1 by rw [hw1]; exact bytes_below (Below.refl _ _) (Nat.le_refl _) _ _); clear hw1) | (go_at_call 108; refine (H2.out _).mono ?_; rintro e w2 ⟨rfl, hb2⟩; have HB2 := Aside0.mk (below_then HB1.out HB1.out.size hb2); clear hb2) | (go_at_call 107; refine (H3.out _).mono ?_; rintro e w3 ⟨rfl, rfl⟩))
  go_ret
  exact ⟨rfl, HB2.out⟩
theorem impl_StringToBool (w : World) (htab : Lib.TabIs Tryz.prog w "strings.asciiSpace" .u8 Lib.asciiSpaceTab) :
    Calls Tryz.prog 59 #[.string ⟨#[116, 114, 117, 101]⟩] w fun e w' => e = .returned (.bool true) ∧ Below w.heap.size w w' := by
  have H1 := Lib.hid (utils_StringToBool w htab)
  clear htab
  go_enter Tryz.func59, Tryz.ntmps59
  go_wp2_with (go_at_call 90; refine H1.out.mono ?_; rintro e w1 ⟨rfl, hb⟩; have HB := Aside0.mk hb; clear hb)
  go_ret
  exact ⟨rfl, HB.out⟩

theorem lit_C {α : Type} {enc : α → Value} {h1 : ∀ x : α, (enc x).oneCell' = true} (W : World) (e : TypeId) (xs : List α) (hm : xs.length ≤ 9223372036854775807) : (Kd.scalar enc h1).C (W.alloc (.cells (encs enc xs).toArray e)) (some ⟨W.heap.size, 0, none⟩) xs.length xs := by
  have h := own_lit_of (enc := enc) W 0 e xs (Nat.zero_le _) hm
  have hr := Kd.R_reads (Kd.R_of_own (ok := fun _ => True) (h1 := h1) h (fun _ _ => trivial))
  obtain ⟨A, c, e1, _, hC⟩ := hr
  injection e1 with e1
  rw [← e1] at hC
  exact hC
def spA (s : ByteArray) : ByteArray × Option ByteArray := if s = ⟨#[98, 61, 50]⟩ then (⟨#[98]⟩, some ⟨#[50]⟩) else (⟨#[97]⟩, none)
theorem spA_ok : ∀ s ∈ [(⟨#[98, 61, 50]⟩ : ByteArray), ⟨#[97]⟩], ∃ k, types_zzSplitTwo.f k s ⟨#[61]⟩ = some (partsOf (spA s)) := by
  intro s hs
  simp only [List.mem_cons, List.not_mem_nil, or_false] at hs
  rcases hs with rfl | rfl
  · exact ⟨10, by kernel_rfl⟩
  · exact ⟨10, by kernel_rfl⟩
theorem putsA : putsC spA [(⟨#[98, 61, 50]⟩ : ByteArray), ⟨#[97]⟩] = [(⟨#[98]⟩, ⟨#[50]⟩), (⟨#[97]⟩, ⟨#[]⟩)] := by kernel_rfl
def encP (x : S52) : List Value := [.string x.f0, .string x.f1]
instance : Inhabited S52 := ⟨z52⟩
theorem lit_P (W : World) (l : List S52) (hm : l.length ≤ 9223372036854775807) : Kd.C k52 (W.alloc (.cells (l.flatMap encP).toArray 52)) (some ⟨W.heap.size, 0, none⟩) l.length l := by
  have h := OwnRow.lit (R := k52.M (W.alloc (.cells (l.flatMap encP).toArray 52)) 0 (fun k => True ∧ some k ≠ (Value.slice (some ⟨W.heap.size, 0, none⟩) l.length l.length).ownBlock)) (e := 52) (size := 2) W 0 (Srt.reps_of_flat (enc := encP) (k := 2) (fun x => k52_mkM _ _ _ _) (fun _ => rfl) l) (Nat.zero_le _) hm
  have hR : Kd.R k52 52 (W.alloc (.cells (l.flatMap encP).toArray 52)) 0 (fun _ => True) (.slice (some ⟨W.heap.size, 0, none⟩) l.length l.length) l := ⟨fun _ _ => trivial, h⟩
  obtain ⟨A, c, e1, _, hC⟩ := Kd.R_reads hR
  injection e1 with e1
  rw [← e1] at hC
  exact hC
theorem tpI_inj {a b : S89} (h : tpI a = tpI b) : a = b := by
  cases a; cases b; injection h with h1 h2; simp_all
theorem mem_tpI {l : List S89} {p : S89} : p ∈ l ↔ tpI p ∈ l.map tpI := by
  constructor
  · exact List.mem_map_of_mem
  · intro h
    obtain ⟨q, hq, e⟩ := List.mem_map.1 h
    rw [← tpI_inj e]; exact hq
theorem toldA {l : List S89} (ha : Ord.Asc S89.f0 l) (hp : (l.map tpI).Perm [(⟨#[98]⟩, ⟨#[50]⟩), (⟨#[97]⟩, ⟨#[]⟩)]) : l = [⟨⟨#[97]⟩, ⟨#[]⟩⟩, ⟨⟨#[98]⟩, ⟨#[50]⟩⟩] := by
  refine Ord.asc_ext ha (List.pairwise_cons.2 ⟨fun q hq => ?_, List.pairwise_singleton _ _⟩) (fun p => ?_)
  · obtain rfl := List.mem_singleton.1 hq
    kernel_rfl
  · rw [mem_tpI, hp.mem_iff, mem_tpI]
    simp only [List.map_cons, List.map_nil, tpI, List.mem_cons, List.not_mem_nil, or_false]
    exact Or.comm
set_option maxRecDepth 100000 in
set_option maxHeartbeats 2000000 in
theorem laws_mapsAwake (w : World) (htab : Lib.TabIs Tryz.prog w "strings.asciiSpace" .u8 Lib.asciiSpaceTab) :
    Calls Tryz.prog 16 #[] w fun e w' => e = .returned (.bool true) ∧ Below w.heap.size w w' := by
  have HT := Lib.hid (Lib.tabBelow_of_tabIs htab)
  clear htab
  go_enter Tryz.func16, Tryz.ntmps16
  have HC0 := Lib.hid (fun W : World => lit_C (enc := Value.string) (h1 := fun _ => rfl) W 9 [(⟨#[98, 61, 50]⟩ : ByteArray), ⟨#[97]⟩] (by decide))
  have HC9 := Lib.hid (fun W : World => lit_P W [(⟨⟨#[97]⟩, ⟨#[]⟩⟩ : S52), ⟨⟨#[98]⟩, ⟨#[50]⟩⟩] (by decide))
  have HPF := Lib.hid (show laws_pairsFrom.f 10 [(⟨⟨#[97]⟩, ⟨#[]⟩⟩ : S89), ⟨⟨#[98]⟩, ⟨#[50]⟩⟩] = some [(⟨⟨#[97]⟩, ⟨#[]⟩⟩ : S52), ⟨⟨#[98]⟩, ⟨#[50]⟩⟩] by kernel_rfl)
  have HSM := Lib.hid (show laws_samePairs.f 10 [(⟨⟨#[97]⟩, ⟨#[]⟩⟩ : S52), ⟨⟨#[98]⟩, ⟨#[50]⟩⟩] [(⟨⟨#[97]⟩, ⟨#[]⟩⟩ : S52), ⟨⟨#[98]⟩, ⟨#[50]⟩⟩] = some true by kernel_rfl)
  go_wp2_with (first | (go_at_call 58; refine (impl_NewMapping _ _ [(⟨#[98, 61, 50]⟩ : ByteArray), ⟨#[97]⟩] _ (HC0.out _) (Nat.le_refl _) (by decide) spA spA_ok (by decide)).mono ?_; rintro e w1 ⟨v, l, rfl, ho, ha, hp, hb⟩; rw [putsA] at hp; obtain rfl := toldA ha hp; obtain ⟨A1, c1, rfl, hl1, hC1⟩ := Kd.R_reads ho; have HC1 := Aside0.mk hC1; have HL1 := Aside0.mk hl1; have HB1 := Aside0.mk (below_then (B := w.heap.size) (w := w) (by repeat (first | exact Below.refl _ _ | apply below_alloc)) (by simp) hb); clear ho ha hp hb hC1 hl1) | (go_at_call 26; refine (laws_pairsFrom.calls 10 _ _ [(⟨⟨#[97]⟩, ⟨#[]⟩⟩ : S89), ⟨⟨#[98]⟩, ⟨#[50]⟩⟩] _ _ HC1.out HL1.out HPF.out).mono ?_; rintro e w2 ⟨v, rfl, ho, hb⟩; obtain ⟨A2, c2, rfl, hl2, hC2⟩ := Kd.R_reads ho; have HC2 := Aside0.mk hC2; have HL2 := Aside0.mk hl2; have HB2 := Aside0.mk (below_then HB1.out HB1.out.size hb); clear ho hb hC2 hl2) | (go_at_call 25; refine (laws_samePairs.calls 10 _ _ [(⟨⟨#[97]⟩, ⟨#[]⟩⟩ : S52), ⟨⟨#[98]⟩, ⟨#[50]⟩⟩] _ _ [(⟨⟨#[97]⟩, ⟨#[]⟩⟩ : S52), ⟨⟨#[98]⟩, ⟨#[50]⟩⟩] _ _ (Kd.C_alloc HC2.out _) HL2.out (HC9.out _) (Nat.le_refl _) HSM.out).mono ?_; rintro e w3 ⟨rfl, hd⟩; have HB3 := Aside0.mk (below_then (below_alloc HB2.out _) (below_alloc HB2.out _).size hd.below); clear hd) | (go_at_call 59; refine (impl_StringToBool _ (HT.out _ HB3.out)).mono ?_; rintro e w4 ⟨rfl, hb⟩; have HB4 := Aside0.mk (below_then HB3.out HB3.out.size hb); clear hb))
  go_ret
  exact ⟨rfl, HB4.out⟩
end Go.Proofs.YtcocmdbleicmcaaGreatDoor.M
