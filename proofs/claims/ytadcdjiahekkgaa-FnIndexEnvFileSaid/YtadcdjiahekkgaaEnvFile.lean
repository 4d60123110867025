/- Walks: the index of an env_file, and the law on it. -/
import Derived.Test.YtadcdjiahekkgaaTo
import Derived.Test.YtadcdjiahekkgaaWord
import Derived.Test.YtadcdjiahekkgaaLaw
namespace Go.Proofs.Ytadcdjiahekkgaa.A
set_option linter.unusedVariables false
set_option linter.unusedSimpArgs false
set_option linter.unusedSectionVars false
open Go.RowKit Go.Proofs.YtadcdjiahekkgaaW.PrintWords Go.Proofs.YtadcdjiahekkgaaW.PrintLast Go.Proofs.YtadcdjiahekkgaaW.PrintMore Go.Proofs.Ytadcdjiahekkgaa.PT Go.Proofs.Ytadcdjiahekkgaa.L Go.Proofs.Ytadcdjiahekkgaa.SM

theorem any_text {lo : Nat} {w : World} {s : ByteArray} {v : AV} (h : AnyIs lo w (tI s) v) : v = .text s := by
  cases h with
  | text h => rfl
  | nil h => simp [tI] at h
  | bool h => simp [tI] at h
  | int h => simp [tI] at h
  | list h _ _ _ _ _ => simp [tI] at h
  | map h _ _ _ _ _ => simp [tI] at h
theorem any_map {lo : Nat} {w : World} {ks ss : List ByteArray} {v : AV} (h : AnyIs lo w (mI ks ss) v) : ∃ b, v = .map b ∧ lo ≤ b ∧ TMap w b AV.enc (ks.zip (ss.map AV.text)) := by
  cases h with
  | @map _ b m h hm hb hk hl he =>
    refine ⟨b, rfl, hb, ?_⟩
    have e : m = ks.zip (ss.map AV.text) := by
      have hk' : m.map (·.1) = ks := hk
      have hl' : m.length = ss.length := by simpa [mI] using hl
      have hkl : ks.length = m.length := by rw [← hk']; simp
      refine List.ext_getElem (by simp; omega) (fun i h1 h2 => ?_)
      have h3 : i < ss.length := by omega
      have h4 : i < (mI ks ss).f4.length := by simpa [mI] using h3
      have q := he i h4 h1
      have e2 : (mI ks ss).f4[i]'h4 = tI (ss[i]'h3) := by simp [mI]
      rw [e2] at q
      have e3 := any_text q
      have e4 : (m[i]'h1).1 = ks[i]'(by omega) := by
        have : (m.map (·.1))[i]'(by simpa using h1) = ks[i]'(by omega) := by simp only [hk']
        simpa using this
      rw [List.getElem_zip]
      refine Prod.ext e4 ?_
      rw [e3]
      simp
    rw [← e]
    exact hm
  | nil h => simp [mI] at h
  | bool h => simp [mI] at h
  | int h => simp [mI] at h
  | text h => simp [mI] at h
  | list h _ _ _ _ _ => simp [mI] at h
theorem canon_text (s : ByteArray) : Canon (tI s) := .mk (fun h => by simp [tI] at h) (by simp [tI]) (fun y hy => by simp [tI] at hy)
theorem canon_map (ks ss : List ByteArray) (hn : ks.Nodup) (hl : ks.length = ss.length) (hb : ss.length ≤ 1099511627776) : Canon (mI ks ss) := .mk (fun _ => ⟨hn, by simpa [mI] using hl⟩) (by simpa [mI] using hb) (fun y hy => by
  simp only [mI, List.mem_map] at hy
  obtain ⟨s, _, rfl⟩ := hy
  exact canon_text s)
abbrev kPath : ByteArray := ⟨#[112, 97, 116, 104]⟩
set_option maxRecDepth 100000 in
theorem env_text (s p : ByteArray) (w : World) :
    Calls Try.prog 45 #[.iface 9 (.string s), .string p] w fun e w' => e = .returned (.tuple #[.string s, .nilIface]) ∧ Below w.heap.size w w' := by
  have e1 := as_string 20 w s
  go_enter Try.func45, Try.ntmps45
  go_wp2
  go_ret2
  exact ⟨rfl, Below.refl _ _⟩
set_option maxRecDepth 100000 in
theorem env_map (s p : ByteArray) (b : Nat) (w : World) (hm : TMap w b AV.enc [(kPath, .text s)]) :
    Calls Try.prog 45 #[.iface 71 (.map (some b)), .string p] w fun e w' => e = .returned (.tuple #[.string s, .nilIface]) ∧ Below w.heap.size w w' := by
  have e1 := no_string 20 w 71 (.map (some b)) (by decide)
  have e2 := as_map 20 w (.map (some b))
  have e3 := assertT_string s 20 w
  have HM := Aside0.mk hm
  have hze := zeroA w
  have hl : SM.look [(kPath, AV.text s)] kPath = some (.text s) := by simp [SM.look]
  have hh : SM.has [(kPath, AV.text s)] kPath = true := by simp [SM.has]
  have HL := Lib.hid hl
  have HH := Lib.hid hh
  clear hm hl hh
  go_enter Try.func45, Try.ntmps45
  go_wp2_with (at_lookup; refine wp_look rfl _ _ true rfl Try.underlying71 Try.underlying9 rfl HM.out kPath rfl hze ?_; rw [if_pos rfl, HL.out, HH.out]; simp only [Option.map_some, Option.getD_some]; unfold AV.enc)
  go_ret2
  exact ⟨rfl, Below.refl _ _⟩
theorem override_IndexEnvFile (v : Value) (s p : ByteArray) (w : World) (h : Calls Try.prog 45 #[v, .string p] w fun e w' => e = .returned (.tuple #[.string s, .nilIface]) ∧ Below w.heap.size w w') :
    Calls Try.prog 28 #[v, .string p] w fun e w' => e = .returned (.tuple #[.string s, .nilIface]) ∧ Below w.heap.size w w' := by
  have H := Lib.hid h
  clear h
  go_enter Try.func28, Try.ntmps28
  go_wp2_with fail
  refine H.out.mono ?_
  rintro e w1 ⟨rfl, hb⟩
  go_wp2
  go_ret2
  exact ⟨rfl, hb⟩
set_option maxRecDepth 100000 in
/-- hE: what the indexer answers on what the value is as the package has it -/
theorem impl_IndexEnvFile (y : IV) (hc : Canon y) (s : ByteArray) (w : World) {v : Value} (hv : MadeI y w v)
    (hE : ∀ (W : World) (u : AV) (p : ByteArray) (W' : World), AnyIs 0 W y u → Below W.heap.size W W' → Calls Try.prog 45 #[u.enc, .string p] W' fun e w' => e = .returned (.tuple #[.string s, .nilIface]) ∧ Below W'.heap.size W' w') :
    Calls Try.prog 9 #[v] w fun e w' => e = .returned (.tuple #[.string s, .bool true]) ∧ Below w.heap.size w w' := by
  have hb0 : ∀ o, Below w.heap.size w (w.alloc o) := fun o => (Below.refl _ _).alloc (Nat.le_refl _) o
  have HT := Lib.hid (fun o => to_any hc (hv.below_ (hb0 o)))
  have HB0 := Lib.hid hb0
  have HE := Lib.hid hE
  obtain ⟨A3, c3, A4, c4, rfl, _, _, _, _⟩ := hv
  clear hE hb0
  go_enter Try.func9, Try.ntmps9
  go_wp2_with fail
  refine (HT.out _).mono ?_
  rintro e w1 ⟨u, rfl, ha, hb1⟩
  have HA := Aside0.mk (ha.lower (Nat.zero_le _))
  have hc1 := (HB0.out (Obj.cells #[.int .i64 y.f0, .int .i64 y.f1, .string y.f2, .slice A3 y.f3.length c3, .slice A4 y.f4.length c4] 28)).trans (hb1.mono (HB0.out _).size)
  have H1 := Aside0.mk hc1
  clear ha hb1 hc1
  go_wp2_with fail
  refine (impl_at _).mono ?_
  rintro e w2 ⟨⟨p, rfl⟩, hb2⟩
  have HB2 := Aside0.mk hb2
  clear hb2
  go_wp2_with fail
  refine (override_IndexEnvFile u.enc s p _ (HE.out w1 u p w2 HA.out HB2.out)).mono ?_
  rintro e w3 ⟨rfl, hb3⟩
  have H3 := Aside0.mk (below_then (below_then H1.out H1.out.size HB2.out) (Nat.le_trans H1.out.size HB2.out.size) hb3)
  clear hb3
  go_wp2_with fail
  refine (impl_index _ _).mono ?_
  rintro e w4 ⟨rfl, rfl⟩
  go_wp2
  go_ret2
  exact ⟨rfl, H3.out⟩
theorem env_of_text (s : ByteArray) (w : World) {v : Value} (hv : MadeI (tI s) w v) : Calls Try.prog 9 #[v] w fun e w' => e = .returned (.tuple #[.string s, .bool true]) ∧ Below w.heap.size w w' :=
  impl_IndexEnvFile (tI s) (canon_text s) s w hv (fun W u p W' ha hb => by
    rw [any_text ha]
    exact env_text s p W')
theorem env_of_map (s : ByteArray) (w : World) {v : Value} (hv : MadeI (mI [kPath] [s]) w v) : Calls Try.prog 9 #[v] w fun e w' => e = .returned (.tuple #[.string s, .bool true]) ∧ Below w.heap.size w w' :=
  impl_IndexEnvFile (mI [kPath] [s]) (canon_map [kPath] [s] (by simp) rfl (by simp)) s w hv (fun W u p W' ha hb => by
    obtain ⟨b, rfl, _, hm⟩ := any_map (ks := [kPath]) (ss := [s]) ha
    exact env_map s p b W' (hm.below hb))
theorem laws_partIndex (s : ByteArray) (w : World) :
    Calls Try.prog 13 #[.string s, .bool true, .string s] w fun e w' => e = .returned (.bool true) ∧ w = w' := by
  have e1 : (s.toList == s.toList) = true := by simp
  go_enter Try.func13, Try.ntmps13
  go_wp2
  go_ret
  exact ⟨rfl, rfl⟩
theorem M_one (k s : ByteArray) (B : Nat) (w : World) (h0 : w.cell? ⟨B, 0, none⟩ = some (.iface 9 (.string k))) (h1 : w.cell? ⟨B, 1, none⟩ = some (.iface 32 (valT s))) :
    Calls Try.prog 12 #[.slice (some ⟨B, 0, none⟩) 2 2] w fun e w' => (∃ v, e = .returned v ∧ MadeS (mS [k] [s]) w' v) ∧ Below w.heap.size w w' :=
  M_texts [(k, s)] [k] [s] (by simp [MMq, withKs, withVs, placeN, placeB]) ⟨B, 0, none⟩ 2 w (fun j hj => by
    obtain rfl : j = 0 := by simp at hj; omega
    exact ⟨h0, h1⟩) rfl (by simp)
set_option maxHeartbeats 2000000 in
set_option maxRecDepth 100000 in
theorem law_IndexEnvFile (s : ByteArray) (w : World) :
    Calls Try.prog 3 #[.string s] w fun e w' => e = .returned (.bool true) ∧ Below w.heap.size w w' := by
  by_cases ha : s.size ≤ 2147483647
  case neg =>
    have ga : 2147483647 < (s.size : Int) := by omega
    go_enter Try.func3, Try.ntmps3
    go_wp2_with fail
    go_ret
    exact ⟨rfl, Below.refl _ _⟩
  have ga : ¬ 2147483647 < (s.size : Int) := by omega
  have eq1 : (s.toList == s.toList) = true := by simp
  cases hw : wordB s with
  | false =>
    have HW := Lib.hid hw
    clear hw
    go_enter Try.func3, Try.ntmps3
    go_wp2_with fail
    refine (spec_PartWord s _ ha).mono ?_
    rw [HW.out]
    rintro e w1 ⟨rfl, hb⟩
    go_wp2
    go_ret
    exact ⟨rfl, hb⟩
  | true =>
    have HW := Lib.hid hw
    clear hw
    go_enter Try.func3, Try.ntmps3
    go_wp2_with fail
    refine (spec_PartWord s _ ha).mono ?_
    rw [HW.out]
    rintro e w1 ⟨rfl, hb1⟩
    have H1 := Aside0.mk hb1
    clear hb1
    go_wp2_with fail
    refine (L.spec_T s _).mono ?_
    rintro e w2 ⟨rfl, hb2⟩
    have H2 := Aside0.mk (below_then H1.out H1.out.size hb2)
    clear hb2 H1
    go_wp2_with fail
    refine (law_to (twin_text s) (made_text s w2)).mono ?_
    rintro e w3 ⟨⟨u, rfl, hu⟩, hb3⟩
    have HU := Aside0.mk hu
    have H3 := Aside0.mk (below_then H2.out H2.out.size hb3)
    clear hb3 H2 hu
    go_wp2_with fail
    refine (env_of_text s w3 HU.out).mono ?_
    rintro e w4 ⟨rfl, hb4⟩
    have H4 := Aside0.mk (below_then H3.out H3.out.size hb4)
    clear hb4 H3 HU
    go_wp2_with fail
    refine (L.spec_T s _).mono ?_
    rintro e w5 ⟨rfl, hb5⟩
    have H5 := Aside0.mk (below_then H4.out H4.out.size hb5)
    clear hb5 H4
    go_wp2_with fail
    refine (M_one kPath s w5.heap.size _ ?_ ?_).mono ?_
    · simp
    · simp
    rintro e w6 ⟨⟨v6, rfl, hv6⟩, hb6⟩
    have HV6 := Aside0.mk hv6
    have H6 : Aside0 (Below w.heap.size w w6) := ⟨(H5.out.alloc H5.out.size _).trans (hb6.mono (by have := H5.out.size; simp; omega))⟩
    clear hv6 hb6 H5
    go_wp2_with fail
    refine (law_to (twin_map [kPath] [s] (by simp) (by simp)) HV6.out).mono ?_
    rintro e w7 ⟨⟨u7, rfl, hu7⟩, hb7⟩
    have HU7 := Aside0.mk hu7
    have H7 := Aside0.mk (below_then H6.out H6.out.size hb7)
    clear hb7 H6 hu7 HV6
    go_wp2_with fail
    refine (env_of_map s w7 HU7.out).mono ?_
    rintro e w8 ⟨rfl, hb8⟩
    have H8 := Aside0.mk (below_then H7.out H7.out.size hb8)
    clear hb8 H7 HU7
    go_wp2_with fail
    refine (laws_partIndex s _).mono ?_
    rintro e w9 ⟨rfl, rfl⟩
    go_wp2_with fail
    refine (laws_partIndex s _).mono ?_
    rintro e w10 ⟨rfl, rfl⟩
    go_wp2_with fail
    go_ret
    exact ⟨rfl, H8.out⟩
end Go.Proofs.Ytadcdjiahekkgaa.A
