/- Joined texts. -/
import Derived.Test.YtiamiagjkfioiaaGreatDoorL
import Derived.Carry
import Derived.WideKeyArgs
import Derived.SliceStrings
import Derived.Test.YtiamiagjkfioiaaGreatDoorRows
import Derived.Test.YtiamiagjkfioiaaGreatDoorFitM
import Derived.Lib.LaidTab
import Derived.Deep.Strs
import Derived.ChangeSame
import Derived.Test.YtiamiagjkfioiaaGreatDoorUqW
/- The frame of a law's proof: a call that returns true and only lays new blocks leaves what the row asks. No statement. -/
namespace Go.Proofs.YtiamiagjkfioiaaGreatDoor.L
set_option linter.unusedVariables false
set_option linter.unusedSimpArgs false
set_option linter.unusedSectionVars false
open Go.RowKit Go.ChangeShapes Go.WideShapes Go.ChangeAt

theorem trodAll_stays {H : Type} {enc : TypeId × Value → H} {P : Program} (hl : laidOutB P = true) {W W' : World} (hb : Below W.heap.size W W') :
    ∀ (ts : List TypeId) (vs : List Value) (ds : List (DataW H)) (ps : List MemPlace), (∀ t ∈ ts, P.readableRec t = true ∧ t < P.types.size) →
      DataW.TrodAll enc P W 0 (fun _ => true) true ts vs ds ps → (∀ x ∈ ps, x.block < W.heap.size) →
      DataW.TrodAll enc P W' 0 (fun b => decide (b < W.heap.size)) true ts vs ds ps
  | [], [], [], _, _, h, _ => h
  | t :: ts, v :: vs, d :: ds, ps, hr, h, hlt => by
    obtain ⟨p, q, h1, h2, rfl⟩ := h
    exact ⟨p, q, Below.trod hl (hr t List.mem_cons_self).1 (hr t List.mem_cons_self).2 h1 hb (fun x hx => hlt x (List.mem_append_left _ hx)),
      trodAll_stays hl hb ts vs ds q (fun t' ht => hr t' (List.mem_cons_of_mem _ ht)) h2 (fun x hx => hlt x (List.mem_append_right _ hx)), rfl⟩
  | [], _ :: _, _, _, _, h, _ => h.elim
  | [], [], _ :: _, _, _, h, _ => h.elim
  | _ :: _, [], _, _, _, h, _ => h.elim
  | _ :: _, _ :: _, [], _, _, h, _ => h.elim

theorem addr_add (a : Addr) (i : Nat) (h : a.spot = none) : a.add i = ⟨a.block, a.off + i, none⟩ := by
  unfold Addr.add
  by_cases h0 : i = 0
  · subst h0
    rw [if_pos rfl]
    cases a
    simp_all
  · rw [if_neg h0]
theorem cell_spot {w : World} {a : Addr} {v : Value} (h : w.cell? a = some v) : a.spot = none ∧ a.block < w.heap.size := by
  unfold World.cell? at h
  split at h
  · rename_i hh
    split at h
    · cases h
    · rename_i hs
      refine ⟨by simpa using hs, ?_⟩
      rcases Nat.lt_or_ge a.block w.heap.size with hlt | hge
      · exact hlt
      · rw [Array.getElem?_eq_none hge] at hh; cases hh
  · cases h

/-- What a row of a law asks behind the call: the result is true, the arguments read as they did, nothing old has turned. -/
theorem law_post {H : Type} {enc : TypeId × Value → H} {P : Program} {f : Func} {s : ChangeSpec} {W W' : World} {args : Array Value} {ds : List (DataW H)} {before : List MemPlace} {tb : TypeId}
    (hl : laidOutB P = true) (hr : ∀ t ∈ f.params.toList, P.readableRec t = true ∧ t < P.types.size) (hres : f.resultTypes = #[tb]) (htb : P.underlying tb = some .bool) (hv : s.vars = [])
    (hW : DataW.Whole enc P f.params.toList s.vars false W args.toList ds [] before)
    (hspec : s.fn H (ds ++ []) = { results := [.lit (.bool true)], args := ds }) (hb : Below W.heap.size W W') :
    s.post enc P f false true false false W args (.bool true) W' := by
  have hlt := hW.lt
  have hW0 := hW
  obtain ⟨p, q, hA, hVars, rfl, hfz, hnd⟩ := hW
  rw [hv] at hVars
  have hq : q = [] := hVars
  subst hq
  refine ⟨ds, [], _, [], p, [], hW0, ?_, ?_, ?_, hb.frame _, fun h => by cases h⟩
  · rw [hspec, hres]
    exact trodAll_cons_mk (shut_bool htb true) trodAll_mk0
  · rw [hspec]
    exact trodAll_stays hl hb _ _ _ _ hr hA (fun x hx => hlt x (List.mem_append_left _ hx))
  · rw [hspec, hv]
    rfl
#print axioms law_post
end Go.Proofs.YtiamiagjkfioiaaGreatDoor.L
/- What the bound of an Upto statement gives: strings that are read are small. No statement. -/
namespace Go.Proofs.YtiamiagjkfioiaaGreatDoor.L
set_option linter.unusedVariables false
set_option linter.unusedSimpArgs false
set_option linter.unusedSectionVars false
open Go.RowKit Go.ChangeShapes Go.WideShapes Go.ChangeAt

theorem bulk_all {H : Type} {l : List (DataW H)} (hk : Rows.uptoSmall H l = true) : Rows.uptoBulkAll l ≤ 1048576 := by
  simpa [Rows.uptoSmall] using hk
end Go.Proofs.YtiamiagjkfioiaaGreatDoor.L
/- The door of an argument that is a value of a configuration, where the bulk of what is read is bounded. -/
namespace Go.Proofs.YtiamiagjkfioiaaGreatDoor.A
set_option linter.unusedVariables false
set_option linter.unusedSimpArgs false
set_option linter.unusedSectionVars false
open Go.RowKit Go.Proofs.YtiamiagjkfioiaaGreatDoorW.PrintWords Go.Proofs.YtiamiagjkfioiaaGreatDoorW.PrintLast Go.Proofs.YtiamiagjkfioiaaGreatDoorW.PrintMore Go.Proofs.YtiamiagjkfioiaaGreatDoor.PT Go.Proofs.YtiamiagjkfioiaaGreatDoor.L Go.Proofs.YtiamiagjkfioiaaGreatDoor.SM
open Go.ChangeShapes Go.WideShapes Go.ChangeAt

theorem rows_exist {α : Type} {Q : Nat → α → Prop} : ∀ n : Nat, (∀ j, j < n → ∃ x, Q j x) → ∃ l : List α, l.length = n ∧ ∀ j x, l[j]? = some x → Q j x
  | 0, _ => ⟨[], rfl, fun j x h => by simp at h⟩
  | n + 1, h => by
    obtain ⟨l, hl, hq⟩ := rows_exist n (fun j hj => h j (by omega))
    obtain ⟨x, hx⟩ := h n (by omega)
    refine ⟨l ++ [x], by simp [hl], fun j y hy => ?_⟩
    rcases Nat.lt_or_ge j l.length with hj | hj
    · rw [List.getElem?_append_left hj] at hy; exact hq j y hy
    · have hj2 := (List.getElem?_eq_some_iff.1 hy).1
      simp only [List.length_append, List.length_singleton] at hj2
      obtain rfl : j = n := by omega
      rw [List.getElem?_append_right (by omega), hl] at hy
      simp only [Nat.sub_self, List.getElem?_cons_zero, Option.some.injEq] at hy
      exact hy ▸ hx
theorem cells_some {w : World} {base : Nat} {a : Addr} {n : Nat} {cs : List Value} (h : w.cells? base a n = some cs) : cs.length = n ∧ ∀ i, i < n → w.cell? (a.add i) = cs[i]? := by
  unfold World.cells? at h
  split at h
  · have h1 := mapM_some_length h
    have h2 := mapM_some_get h
    rw [List.length_range] at h1
    exact ⟨h1, fun i hi => h2 i i (List.getElem?_range hi)⟩
  · cases h
theorem bulk_pos {H : Type} : ∀ d : DataW H, 1 ≤ Rows.uptoBulk d
  | .lit l => by cases l <;> simp [Rows.uptoBulk]
  | .nil => by simp [Rows.uptoBulk]
  | .ptr d => by simp [Rows.uptoBulk]
  | .slice a b => by simp [Rows.uptoBulk]
  | .agg a => by simp [Rows.uptoBulk]
  | .iface _ d => by simp [Rows.uptoBulk]
  | .map a => by simp [Rows.uptoBulk]
  | .held _ => by simp [Rows.uptoBulk]
theorem bulk_mem {H : Type} : ∀ {l : List (DataW H)} {d : DataW H}, d ∈ l → Rows.uptoBulk d ≤ Rows.uptoBulkAll l
  | x :: l, d, h => by
    rw [Rows.uptoBulkAll]
    rcases List.mem_cons.1 h with rfl | h
    · omega
    · have := bulk_mem h; omega
theorem bulk_len {H : Type} : ∀ l : List (DataW H), l.length ≤ Rows.uptoBulkAll l
  | [] => Nat.le_refl _
  | x :: l => by
    have := bulk_len l
    have := bulk_pos x
    rw [Rows.uptoBulkAll, List.length_cons]; omega
theorem sum_all {α : Type} {H : Type} (mu : α → Nat) : ∀ (l : List α) (es : List (DataW H)), l.length = es.length → (∀ (j : Nat) (x : α) (y : DataW H), l[j]? = some x → es[j]? = some y → mu x ≤ Rows.uptoBulk y) → (l.map mu).sum ≤ Rows.uptoBulkAll es
  | [], [], _, _ => Nat.zero_le _
  | [], _ :: _, h, _ => by cases h
  | _ :: _, [], h, _ => by cases h
  | x :: l, y :: es, h, hh => by
    have h1 := hh 0 x y rfl rfl
    have h2 := sum_all mu l es (by simpa using h) (fun j a b ha hb => hh (j + 1) a b ha hb)
    rw [Rows.uptoBulkAll, List.map_cons, List.sum_cons]
    omega
theorem C_of_trod_at {α : Type} {H : Type} {enc : TypeId × Value → H} {P : Program} {t e : TypeId} {W : World} {cs0 : List Value} {fuel B : Nat} {x0 : DataW H × List MemPlace} (k : Kd α) (Q : α → Prop) (mu : α → Nat) (ht : P.underlying t = some (.slice e)) (hsz : P.cellsOf e = k.sz) (hpos : 0 < k.sz)
    (hel : ∀ n, n < fuel → ∀ cs y, DataW.trod enc P W 0 (fun _ => true) true n e cs = some y → Rows.uptoBulk y.1 ≤ B → ∃ x : α, k.K W x cs ∧ Q x ∧ mu x ≤ Rows.uptoBulk y.1)
    (hf : DataW.trod enc P W 0 (fun _ => true) true fuel t cs0 = some x0) (hB : Rows.uptoBulk x0.1 ≤ B) : ∃ A c, ∃ l : List α, cs0 = [.slice A l.length c] ∧ l.length ≤ c ∧ Kd.C k W A l.length l ∧ l.length ≤ B ∧ (∀ x ∈ l, Q x) ∧ (l.map mu).sum + 1 ≤ Rows.uptoBulk x0.1 := by
  rcases DataW.trod_slice ht hf with ⟨hcs, hx0⟩ | ⟨ad, len, cap, elems, rest, m, hm1, hcs, hx, _, hl, hm, hlen, he, _, _⟩
  · exact ⟨none, 0, [], hcs, Nat.le_refl _, ⟨rfl, by simp, fun h => absurd h (by simp)⟩, Nat.zero_le _, (fun x hx => by cases hx), by rw [hx0]; simp [Rows.uptoBulk]⟩
  · have hd : x0.1 = .slice (elems.map (·.1)) (rest.map (·.1)) := congrArg Prod.fst hx
    have hcell : ∀ j, j < len → ∃ cs y, W.cells? 0 (ad.add (j * P.cellsOf e)) (P.cellsOf e) = some cs ∧ DataW.trod enc P W 0 (fun _ => true) true m e cs = some y ∧ elems[j]? = some y := by
      intro j hj
      have hh := he j hj
      rw [List.getElem?_eq_getElem (by omega)] at hh
      obtain ⟨cs, h1, h2⟩ := Option.bind_eq_some_iff.1 hh
      exact ⟨cs, _, h1, h2, List.getElem?_eq_getElem _⟩
    have hspot : 0 < len → ad.spot = none := by
      intro h0
      obtain ⟨cs, y, h1, _, _⟩ := hcell 0 h0
      obtain ⟨h2, h3⟩ := cells_some h1
      have h4 := h3 0 (by omega)
      rw [List.getElem?_eq_getElem (by omega)] at h4
      have hs0 : (ad.add (0 * P.cellsOf e)).add 0 = ad := by simp [Addr.add]
      rw [hs0] at h4
      exact (cell_spot h4).1
    have hin : ∀ y ∈ elems, Rows.uptoBulk y.1 ≤ B := fun y hy => by
      have := bulk_mem (List.mem_map_of_mem (f := fun x : DataW H × List MemPlace => x.1) hy)
      rw [hd, Rows.uptoBulk] at hB
      omega
    obtain ⟨l, hll, hq⟩ := rows_exist (α := α) (Q := fun j x => (∃ cs : List Value, cs.length = k.sz ∧ k.K W x cs ∧ ∀ i u, cs[i]? = some u → W.cell? (ad.add (j * k.sz + i)) = some u) ∧ Q x ∧ ∃ y, elems[j]? = some y ∧ mu x ≤ Rows.uptoBulk y.1) len (by
      intro j hj
      obtain ⟨cs, y, h1, h2, hy⟩ := hcell j hj
      obtain ⟨h3, h4⟩ := cells_some h1
      obtain ⟨x, hx, hmu, hmy⟩ := hel m (by omega) cs y h2 (hin y (List.mem_of_getElem? hy))
      refine ⟨x, ⟨cs, by rw [h3, hsz], hx, fun i u hu => ?_⟩, hmu, y, hy, hmy⟩
      have hi := (List.getElem?_eq_some_iff.1 hu).1
      have h5 := h4 i (by omega)
      have hsp := hspot (by omega)
      rw [hu, addr_add ad _ hsp, addr_add _ _ rfl] at h5
      rw [addr_add ad _ hsp, ← hsz, ← h5]
      congr 2
      simp only []; omega)
    refine ⟨some ad, cap, l, by rw [hcs, hll], by omega, ⟨rfl, by unfold maxLen at hm; omega, fun _ => ⟨ad, rfl, fun j p hp => (hq j p hp).1⟩⟩, ?_, fun x hx => ?_, ?_⟩
    · have h1 := bulk_len (elems.map (·.1))
      rw [List.length_map] at h1
      rw [hd, Rows.uptoBulk] at hB
      omega
    · obtain ⟨j, hj⟩ := List.mem_iff_getElem?.1 hx
      exact (hq j x hj).2.1
    · have h1 := sum_all mu l (elems.map (·.1)) (by rw [List.length_map]; omega) (fun j x y hj hy => by
        obtain ⟨z, hz, hmz⟩ := (hq j x hj).2.2
        rw [List.getElem?_map, hz] at hy
        injection hy with hy
        rw [← hy]
        exact hmz)
      rw [hd, Rows.uptoBulk]
      omega
end Go.Proofs.YtiamiagjkfioiaaGreatDoor.A
/- What the door gives of a row of texts, and of the table of powers of ten. -/
namespace Go.Proofs.YtiamiagjkfioiaaGreatDoor.A
set_option linter.unusedVariables false
set_option linter.unusedSimpArgs false
set_option linter.unusedSectionVars false
open Go.RowKit Go.ChangeShapes Go.WideShapes Go.ChangeAt Go.Proofs.YtiamiagjkfioiaaGreatDoorW.PrintWords Go.Proofs.YtiamiagjkfioiaaGreatDoorW.PrintLast Go.Proofs.YtiamiagjkfioiaaGreatDoorW.PrintMore Go.Proofs.YtiamiagjkfioiaaGreatDoor.PT Go.Proofs.YtiamiagjkfioiaaGreatDoor.L Go.Proofs.YtiamiagjkfioiaaGreatDoor.SM

theorem strs_of_trod {H : Type} {enc : TypeId × Value → H} {W : World} {v : Value} {d : DataW H} {ps : List MemPlace} (h : DataW.Trod enc Tryz.prog W 0 (fun _ => true) true 22 v d ps) (hv : ∃ a n c, v = .slice a n c) (hB : Rows.uptoBulk d ≤ 1048576) :
    ∃ A c, ∃ l : List ByteArray, v = .slice A l.length c ∧ l.length ≤ c ∧ Kd.C Kd.string W A l.length l ∧ l.length ≤ 1048576 ∧ ∀ x ∈ l, x.size ≤ 1048576 := by
  obtain ⟨a, n, c, rfl⟩ := hv
  obtain ⟨fuel, hf⟩ := h
  obtain ⟨A, c', l, e, h1, h2, h3, h4, _⟩ := C_of_trod_at (B := 1048576) Kd.string (fun s => s.size ≤ 1048576) (fun _ => 0) Tryz.underlying22 (by kernel_rfl) (by decide) (fun m _ cs y h hb => by
    obtain ⟨s0, q0, f0⟩ := DataW.trod_string Tryz.underlying9 h
    refine ⟨s0, q0, ?_, Nat.zero_le _⟩
    rw [f0.1] at hb
    simp only [Rows.uptoBulk] at hb
    rw [Lib.size_eq]; omega) hf hB
  have e' : [Value.slice a n c] = [Value.slice A l.length c'] := by simpa [Value.cells] using e
  injection e' with e' _
  exact ⟨A, c', l, e', h1, h2, h3, h4⟩
theorem tabIs_of_laid {P : Program} {W : World} {name : String} {k : IntKind} {zs : List Int} {g : Nat} {t e : TypeId} {n : Nat}
    (hg : P.globalNamed name = some g) (hty : (P.globals[g]?).map (·.type) = some t) (ht : P.underlying t = some (.array n e)) (he : P.underlying e = some (.int k)) (hce : P.cellsOf e = 1) (hct : P.cellsOf t = n) :
    ∀ {laid : List (String × DataW Unit)} {ps : List MemPlace}, DataW.LaidVars P W laid ps → (name, Lib.tabData k zs) ∈ laid → Lib.TabIs P W name k zs
  | [], _, _, hm => by cases hm
  | x :: rest, _, h, hm => by
    obtain ⟨g', t', cs, fuel, p, q, hg', ht', hvar, hd, hr, _⟩ := h
    rcases List.mem_cons.1 hm with rfl | hm
    · obtain rfl := Option.some.inj (hg.symm.trans hg')
      obtain rfl := Option.some.inj (hty.symm.trans ht')
      unfold Lib.TabIs
      rw [hvar, ← Lib.cells_of_tab ht he hce hct hd]
    · exact tabIs_of_laid hg hty ht he hce hct hr hm
theorem tab_of_laid {W : World} {laid : List (String × DataW Unit)} {ps : List MemPlace} (h : DataW.LaidVars Tryz.prog W laid ps) (hm : ("internal/strconv.uint64pow10", (Lib.tabData .u64 Lib.pow10Tab : DataW Unit)) ∈ laid) : Tab W :=
  Lib.tabBelow_of_tabIs (tabIs_of_laid (g := (Tryz.prog.globalNamed "internal/strconv.uint64pow10").getD 0) (t := ((Tryz.prog.globals[(Tryz.prog.globalNamed "internal/strconv.uint64pow10").getD 0]?).map (·.type)).getD 0) (by kernel_rfl) (by kernel_rfl) (n := 20) (e := 97) (by kernel_rfl) (by kernel_rfl) (by kernel_rfl) (by kernel_rfl) h hm)
end Go.Proofs.YtiamiagjkfioiaaGreatDoor.A
