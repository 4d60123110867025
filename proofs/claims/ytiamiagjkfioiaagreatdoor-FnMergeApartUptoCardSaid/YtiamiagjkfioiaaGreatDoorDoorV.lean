/- Joined texts. -/
import Derived.Test.YtiamiagjkfioiaaGreatDoorLaw
import Derived.Test.YtiamiagjkfioiaaGreatDoorRows
import Derived.Test.YtiamiagjkfioiaaGreatDoorFitM
import Derived.Lib.LaidTab
import Derived.Deep.Strs
import Derived.ChangeSame
/- What the bound of an Upto statement gives: strings that are read are small. No statement. -/
namespace Go.Proofs.YtiamiagjkfioiaaGreatDoor.L
set_option linter.unusedVariables false
set_option linter.unusedSimpArgs false
set_option linter.unusedSectionVars false
open Go.RowKit Go.ChangeShapes Go.WideShapes Go.ChangeAt

theorem bulk_all {H : Type} {l : List (DataW H)} (hk : Rows.uptoSmall H l = true) : Rows.uptoBulkAll l ≤ 1048576 := by
  simpa [Rows.uptoSmall] using hk
end Go.Proofs.YtiamiagjkfioiaaGreatDoor.L
/- The door of an argument that is a value of a configuration, where the bulk of what is read is bounded. -/
namespace Go.Proofs.YtiamiagjkfioiaaGreatDoor.A
set_option linter.unusedVariables false
set_option linter.unusedSimpArgs false
set_option linter.unusedSectionVars false
open Go.RowKit Go.Proofs.YtiamiagjkfioiaaGreatDoorW.PrintWords Go.Proofs.YtiamiagjkfioiaaGreatDoorW.PrintLast Go.Proofs.YtiamiagjkfioiaaGreatDoorW.PrintMore Go.Proofs.YtiamiagjkfioiaaGreatDoor.PT Go.Proofs.YtiamiagjkfioiaaGreatDoor.L Go.Proofs.YtiamiagjkfioiaaGreatDoor.SM
open Go.ChangeShapes Go.WideShapes Go.ChangeAt

theorem rows_exist {α : Type} {Q : Nat → α → Prop} : ∀ n : Nat, (∀ j, j < n → ∃ x, Q j x) → ∃ l : List α, l.length = n ∧ ∀ j x, l[j]? = some x → Q j x
  | 0, _ => ⟨[], rfl, fun j x h => by simp at h⟩
  | n + 1, h => by
    obtain ⟨l, hl, hq⟩ := rows_exist n (fun j hj => h j (by omega))
    obtain ⟨x, hx⟩ := h n (by omega)
    refine ⟨l ++ [x], by simp [hl], fun j y hy => ?_⟩
    rcases Nat.lt_or_ge j l.length with hj | hj
    · rw [List.getElem?_append_left hj] at hy; exact hq j y hy
    · have hj2 := (List.getElem?_eq_some_iff.1 hy).1
      simp only [List.length_append, List.length_singleton] at hj2
      obtain rfl : j = n := by omega
      rw [List.getElem?_append_right (by omega), hl] at hy
      simp only [Nat.sub_self, List.getElem?_cons_zero, Option.some.injEq] at hy
      exact hy ▸ hx
theorem cells_some {w : World} {base : Nat} {a : Addr} {n : Nat} {cs : List Value} (h : w.cells? base a n = some cs) : cs.length = n ∧ ∀ i, i < n → w.cell? (a.add i) = cs[i]? := by
  unfold World.cells? at h
  split at h
  · have h1 := mapM_some_length h
    have h2 := mapM_some_get h
    rw [List.length_range] at h1
    exact ⟨h1, fun i hi => h2 i i (List.getElem?_range hi)⟩
  · cases h
theorem bulk_pos {H : Type} : ∀ d : DataW H, 1 ≤ Rows.uptoBulk d
  | .lit l => by cases l <;> simp [Rows.uptoBulk]
  | .nil => by simp [Rows.uptoBulk]
  | .ptr d => by simp [Rows.uptoBulk]
  | .slice a b => by simp [Rows.uptoBulk]
  | .agg a => by simp [Rows.uptoBulk]
  | .iface _ d => by simp [Rows.uptoBulk]
  | .map a => by simp [Rows.uptoBulk]
  | .held _ => by simp [Rows.uptoBulk]
theorem bulk_mem {H : Type} : ∀ {l : List (DataW H)} {d : DataW H}, d ∈ l → Rows.uptoBulk d ≤ Rows.uptoBulkAll l
  | x :: l, d, h => by
    rw [Rows.uptoBulkAll]
    rcases List.mem_cons.1 h with rfl | h
    · omega
    · have := bulk_mem h; omega
theorem bulk_len {H : Type} : ∀ l : List (DataW H), l.length ≤ Rows.uptoBulkAll l
  | [] => Nat.le_refl _
  | x :: l => by
    have := bulk_len l
    have := bulk_pos x
    rw [Rows.uptoBulkAll, List.length_cons]; omega
theorem sum_all {α : Type} {H : Type} (mu : α → Nat) : ∀ (l : List α) (es : List (DataW H)), l.length = es.length → (∀ (j : Nat) (x : α) (y : DataW H), l[j]? = some x → es[j]? = some y → mu x ≤ Rows.uptoBulk y) → (l.map mu).sum ≤ Rows.uptoBulkAll es
  | [], [], _, _ => Nat.zero_le _
  | [], _ :: _, h, _ => by cases h
  | _ :: _, [], h, _ => by cases h
  | x :: l, y :: es, h, hh => by
    have h1 := hh 0 x y rfl rfl
    have h2 := sum_all mu l es (by simpa using h) (fun j a b ha hb => hh (j + 1) a b ha hb)
    rw [Rows.uptoBulkAll, List.map_cons, List.sum_cons]
    omega
theorem C_of_trod_at {α : Type} {H : Type} {enc : TypeId × Value → H} {P : Program} {t e : TypeId} {W : World} {cs0 : List Value} {fuel B : Nat} {x0 : DataW H × List MemPlace} (k : Kd α) (Q : α → Prop) (mu : α → Nat) (ht : P.underlying t = some (.slice e)) (hsz : P.cellsOf e = k.sz) (hpos : 0 < k.sz)
    (hel : ∀ n, n < fuel → ∀ cs y, DataW.trod enc P W 0 (fun _ => true) true n e cs = some y → Rows.uptoBulk y.1 ≤ B → ∃ x : α, k.K W x cs ∧ Q x ∧ mu x ≤ Rows.uptoBulk y.1)
    (hf : DataW.trod enc P W 0 (fun _ => true) true fuel t cs0 = some x0) (hB : Rows.uptoBulk x0.1 ≤ B) : ∃ A c, ∃ l : List α, cs0 = [.slice A l.length c] ∧ l.length ≤ c ∧ Kd.C k W A l.length l ∧ l.length ≤ B ∧ (∀ x ∈ l, Q x) ∧ (l.map mu).sum + 1 ≤ Rows.uptoBulk x0.1 := by
  rcases DataW.trod_slice ht hf with ⟨hcs, hx0⟩ | ⟨ad, len, cap, elems, rest, m, hm1, hcs, hx, _, hl, hm, hlen, he, _, _⟩
  · exact ⟨none, 0, [], hcs, Nat.le_refl _, ⟨rfl, by simp, fun h => absurd h (by simp)⟩, Nat.zero_le _, (fun x hx => by cases hx), by rw [hx0]; simp [Rows.uptoBulk]⟩
  · have hd : x0.1 = .slice (elems.map (·.1)) (rest.map (·.1)) := congrArg Prod.fst hx
    have hcell : ∀ j, j < len → ∃ cs y, W.cells? 0 (ad.add (j * P.cellsOf e)) (P.cellsOf e) = some cs ∧ DataW.trod enc P W 0 (fun _ => true) true m e cs = some y ∧ elems[j]? = some y := by
      intro j hj
      have hh := he j hj
      rw [List.getElem?_eq_getElem (by omega)] at hh
      obtain ⟨cs, h1, h2⟩ := Option.bind_eq_some_iff.1 hh
      exact ⟨cs, _, h1, h2, List.getElem?_eq_getElem _⟩
    have hspot : 0 < len → ad.spot = none := by
      intro h0
      obtain ⟨cs, y, h1, _, _⟩ := hcell 0 h0
      obtain ⟨h2, h3⟩ := cells_some h1
      have h4 := h3 0 (by omega)
      rw [List.getElem?_eq_getElem (by omega)] at h4
      have hs0 : (ad.add (0 * P.cellsOf e)).add 0 = ad := by simp [Addr.add]
      rw [hs0] at h4
      exact (cell_spot h4).1
    have hin : ∀ y ∈ elems, Rows.uptoBulk y.1 ≤ B := fun y hy => by
      have := bulk_mem (List.mem_map_of_mem (f := fun x : DataW H × List MemPlace => x.1) hy)
      rw [hd, Rows.uptoBulk] at hB
      omega
    obtain ⟨l, hll, hq⟩ := rows_exist (α := α) (Q := fun j x => (∃ cs : List Value, cs.length = k.sz ∧ k.K W x cs ∧ ∀ i u, cs[i]? = some u → W.cell? (ad.add (j * k.sz + i)) = some u) ∧ Q x ∧ ∃ y, elems[j]? = some y ∧ mu x ≤ Rows.uptoBulk y.1) len (by
      intro j hj
      obtain ⟨cs, y, h1, h2, hy⟩ := hcell j hj
      obtain ⟨h3, h4⟩ := cells_some h1
      obtain ⟨x, hx, hmu, hmy⟩ := hel m (by omega) cs y h2 (hin y (List.mem_of_getElem? hy))
      refine ⟨x, ⟨cs, by rw [h3, hsz], hx, fun i u hu => ?_⟩, hmu, y, hy, hmy⟩
      have hi := (List.getElem?_eq_some_iff.1 hu).1
      have h5 := h4 i (by omega)
      have hsp := hspot (by omega)
      rw [hu, addr_add ad _ hsp, addr_add _ _ rfl] at h5
      rw [addr_add ad _ hsp, ← hsz, ← h5]
      congr 2
      simp only []; omega)
    refine ⟨some ad, cap, l, by rw [hcs, hll], by omega, ⟨rfl, by unfold maxLen at hm; omega, fun _ => ⟨ad, rfl, fun j p hp => (hq j p hp).1⟩⟩, ?_, fun x hx => ?_, ?_⟩
    · have h1 := bulk_len (elems.map (·.1))
      rw [List.length_map] at h1
      rw [hd, Rows.uptoBulk] at hB
      omega
    · obtain ⟨j, hj⟩ := List.mem_iff_getElem?.1 hx
      exact (hq j x hj).2.1
    · have h1 := sum_all mu l (elems.map (·.1)) (by rw [List.length_map]; omega) (fun j x y hj hy => by
        obtain ⟨z, hz, hmz⟩ := (hq j x hj).2.2
        rw [List.getElem?_map, hz] at hy
        injection hy with hy
        rw [← hy]
        exact hmz)
      rw [hd, Rows.uptoBulk]
      omega
theorem val_trod {H : Type} {enc : TypeId × Value → H} {W : World} : ∀ (fuel : Nat) (cs : List Value) (y : DataW H × List MemPlace), DataW.trod enc Tryz.prog W 0 (fun _ => true) true fuel 26 cs = some y → Rows.uptoBulk y.1 ≤ 1048576 → ∃ x : SV, kS.K W x cs ∧ Bnd x ∧ wt x ≤ Rows.uptoBulk y.1 := by
  intro fuel
  induction fuel using Nat.strongRecOn with
  | _ fuel ih =>
  intro cs y h hB
  obtain ⟨xs, n, hn, hy, hl, hlen, hf⟩ := DataW.trod_struct Tryz.underlying26 h
  match xs, hlen with
  | [y0, y1, y2, y3, y4], _ =>
    have h0 := hf 0 _ rfl
    have h1 := hf 1 _ rfl
    have h2 := hf 2 _ rfl
    have h3 := hf 3 _ rfl
    have h4 := hf 4 _ rfl
    have hcI : Tryz.prog.cellsOf 3 = 1 := by kernel_rfl
    have hcS : Tryz.prog.cellsOf 9 = 1 := by kernel_rfl
    have hcK : Tryz.prog.cellsOf 22 = 1 := by kernel_rfl
    have hcV : Tryz.prog.cellsOf 24 = 1 := by kernel_rfl
    replace hl : cs.length = 5 := hl.trans (by kernel_rfl)
    have hbb : ∀ z ∈ [y0.1, y1.1, y2.1, y3.1, y4.1], Rows.uptoBulk z ≤ 1048576 := fun z hz => by
      have := bulk_mem hz
      rw [hy] at hB
      have e : Rows.uptoBulk (DataW.agg [y0.1, y1.1, y2.1, y3.1, y4.1]) ≤ 1048576 := hB
      rw [Rows.uptoBulk] at e
      omega
    obtain ⟨i0, e0, _⟩ := DataW.trod_int Tryz.underlying3 h0
    obtain ⟨i1, e1, _⟩ := DataW.trod_int Tryz.underlying3 h1
    obtain ⟨s2, e2, f2⟩ := DataW.trod_string Tryz.underlying9 h2
    obtain ⟨A3, c3, l3, e3, g3, k3, b3, _, w3⟩ := C_of_trod_at (B := 1048576) Kd.string (fun _ => True) (fun s => s.size + 1) Tryz.underlying22 (by kernel_rfl) (by decide) (fun m _ cs y h _ => by
      obtain ⟨s0, q0, f0⟩ := DataW.trod_string Tryz.underlying9 h
      exact ⟨s0, q0, trivial, by rw [f0.1]; simp only [Rows.uptoBulk]; rw [Lib.size_eq]; exact Nat.le_refl _⟩) h3 (hbb _ (by simp))
    obtain ⟨A4, c4, l4, e4, g4, k4, b4, q4, w4⟩ := C_of_trod_at (B := 1048576) kS Bnd wt Tryz.underlying24 (by kernel_rfl) (by decide) (fun m hm cs y h hb => ih m (by omega) cs y h hb) h4 (hbb _ (by simp))
    have hwt : wt ⟨i0, i1, s2, l3, l4⟩ ≤ Rows.uptoBulk y.1 := by
      rw [wt_eq, hy]
      have e : Rows.uptoBulk (DataW.agg (H := H) [y0.1, y1.1, y2.1, y3.1, y4.1]) = Rows.uptoBulk y0.1 + (Rows.uptoBulk y1.1 + (Rows.uptoBulk y2.1 + (Rows.uptoBulk y3.1 + (Rows.uptoBulk y4.1 + 0)))) + 1 := by simp [Rows.uptoBulk, Rows.uptoBulkAll]
      show _ ≤ Rows.uptoBulk (DataW.agg (H := H) [y0.1, y1.1, y2.1, y3.1, y4.1])
      rw [e]
      have h5 : Rows.uptoBulk y2.1 = s2.size + 1 := by rw [f2.1]; simp only [Rows.uptoBulk]; rw [Lib.size_eq]
      unfold ksum
      show 1 + s2.size + (l3.map (fun k => k.size + 1)).sum + (l4.map wt).sum ≤ _
      omega
    replace e0 : (cs.drop 0).take 1 = [.int .i64 i0] := (congrArg (fun n => (cs.drop 0).take n) hcI.symm).trans e0
    replace e1 : (cs.drop 1).take 1 = [.int .i64 i1] := (congrArg (fun n => (cs.drop 1).take n) hcI.symm).trans e1
    replace e2 : (cs.drop 2).take 1 = [.string s2] := (congrArg (fun n => (cs.drop 2).take n) hcS.symm).trans e2
    replace e3 : (cs.drop 3).take 1 = [.slice A3 l3.length c3] := (congrArg (fun n => (cs.drop 3).take n) hcK.symm).trans e3
    replace e4 : (cs.drop 4).take 1 = [.slice A4 l4.length c4] := (congrArg (fun n => (cs.drop 4).take n) hcV.symm).trans e4
    clear h h0 h1 h2 h3 h4 hf hcI hcS hcK hcV hbb ih
    match cs, hl with
    | [a, b, c, d, e], _ =>
      simp at e0 e1 e2 e3 e4
      subst e0 e1 e2 e3 e4
      exact ⟨⟨i0, i1, s2, l3, l4⟩, k26_mk W ⟨i0, i1, s2, l3, l4⟩ g3 k3 g4 k4, .mk (by show l3.length ≤ _; omega) (by show l4.length ≤ _; omega) (fun i q => q4 _ (List.getElem_mem q)), hwt⟩
theorem made_of_K {x : SV} {w : World} {v : Value} {cs : Array Value} (hv : v = .agg cs) (h : kS.K w x cs.toList) : MadeS x w v := by
  obtain ⟨A3, c3, A4, c4, e, h3, g3, h4, g4⟩ := k26_open h
  refine ⟨A3, c3, A4, c4, ?_, h3, g3, h4, g4⟩
  rw [hv]
  unfold cellsS
  congr 1
  exact Array.toList_inj.1 e
/-- an argument that is a value of a configuration -/
theorem val_of_trod {H : Type} {enc : TypeId × Value → H} {W : World} {v : Value} {d : DataW H} {ps : List MemPlace} (h : DataW.Trod enc Tryz.prog W 0 (fun _ => true) true 26 v d ps) (hv : ∃ cs, v = .agg cs ∧ cs.size = Tryz.prog.cellsOf 26) (hB : Rows.uptoBulk d ≤ 1048576) : ∃ x : SV, MadeS x W v ∧ Bnd x ∧ wt x ≤ Rows.uptoBulk d := by
  obtain ⟨cs, rfl, _⟩ := hv
  obtain ⟨fuel, hf⟩ := h
  obtain ⟨x, hx, hb, hw⟩ := val_trod fuel _ _ hf hB
  exact ⟨x, made_of_K rfl (by simpa [Value.cells] using hx), hb, hw⟩
end Go.Proofs.YtiamiagjkfioiaaGreatDoor.A
