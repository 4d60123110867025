/- Joined texts. -/
import Derived.Test.YtadcdjiahekkgaaDoorFitM
import Derived.Test.YtadcdjiahekkgaaDoorAnyF
import Derived.Test.YtadcdjiahekkgaaDoorRepl
import Derived.Test.YtadcdjiahekkgaaDoorSM
import Derived.Test.YtadcdjiahekkgaaDoorFromA
import Derived.Test.YtadcdjiahekkgaaDoorSortC
import Derived.Test.YtadcdjiahekkgaaDoorTo
/- Plain: what loader.OmitEmpty leaves of a value; twice is once. -/
namespace Go.Proofs.YtadcdjiahekkgaaDoor.A
set_option linter.unusedVariables false
set_option linter.unusedSimpArgs false
set_option linter.unusedSectionVars false
open Go.RowKit Go.Proofs.YtadcdjiahekkgaaDoorW.PrintWords Go.Proofs.YtadcdjiahekkgaaDoorW.PrintLast Go.Proofs.YtadcdjiahekkgaaDoorW.PrintMore Go.Proofs.YtadcdjiahekkgaaDoor.PT Go.Proofs.YtadcdjiahekkgaaDoor.L Go.Proofs.YtadcdjiahekkgaaDoor.SM

/-- nil, or the empty text -/
def emptyI (x : IV) : Bool := decide (x.f0 < 1 ∨ 5 < x.f0) || (decide (x.f0 = 3) && decide (x.f2 = be))
/-- mo: whether empty things are left out at a path; nx: the path of a part -/
def omN (mo : ByteArray → Bool) (nx : ByteArray → ByteArray → ByteArray) : Nat → ByteArray → IV → IV
  | 0, _, x => x
  | n + 1, p, x =>
    if x.f0 = 4 then ⟨4, x.f1, x.f2, x.f3, (x.f4.filter (fun e => !(emptyI e && mo p))).map (omN mo nx n (nx p ⟨#[91, 93]⟩))⟩
    else if x.f0 = 5 then ⟨5, x.f1, x.f2, ((x.f3.zip x.f4).filter (fun q => !(emptyI q.2 && mo p))).map (·.1), ((x.f3.zip x.f4).filter (fun q => !(emptyI q.2 && mo p))).map (fun q => omN mo nx n (nx p q.1) q.2)⟩
    else x
variable {mo : ByteArray → Bool} {nx : ByteArray → ByteArray → ByteArray}
theorem omN_kind (n : Nat) (p : ByteArray) (x : IV) : (omN mo nx n p x).f0 = x.f0 ∧ (omN mo nx n p x).f2 = x.f2 := by
  cases n with
  | zero => exact ⟨rfl, rfl⟩
  | succ n =>
    unfold omN
    split
    · rename_i h; exact ⟨h.symm, rfl⟩
    · split
      · rename_i h; exact ⟨h.symm, rfl⟩
      · exact ⟨rfl, rfl⟩
theorem omN_empty (n : Nat) (p : ByteArray) (x : IV) : emptyI (omN mo nx n p x) = emptyI x := by
  obtain ⟨h1, h2⟩ := omN_kind (mo := mo) (nx := nx) n p x
  unfold emptyI
  rw [h1, h2]
theorem zip_maps {α β γ : Type} (f : α → β) (g : α → γ) : ∀ l : List α, (l.map f).zip (l.map g) = l.map (fun a => (f a, g a))
  | [] => rfl
  | a :: l => by simp [zip_maps f g l]
theorem omN_twice : ∀ (n : Nat) (p : ByteArray) (x : IV), omN mo nx n p (omN mo nx n p x) = omN mo nx n p x
  | 0, p, x => rfl
  | n + 1, p, x => by
    by_cases h4 : x.f0 = 4
    · have e : omN mo nx (n + 1) p x = ⟨4, x.f1, x.f2, x.f3, (x.f4.filter (fun e => !(emptyI e && mo p))).map (omN mo nx n (nx p ⟨#[91, 93]⟩))⟩ := by rw [omN, if_pos h4]
      rw [e, omN, if_pos rfl]
      congr 1
      rw [List.filter_map, List.filter_eq_self.2, List.map_map]
      · refine List.map_congr_left (fun q _ => ?_)
        exact omN_twice n _ q
      · intro q hq
        have := (List.mem_filter.1 hq).2
        simpa [omN_empty] using this
    · by_cases h5 : x.f0 = 5
      · have e : omN mo nx (n + 1) p x = ⟨5, x.f1, x.f2, ((x.f3.zip x.f4).filter (fun q => !(emptyI q.2 && mo p))).map (·.1), ((x.f3.zip x.f4).filter (fun q => !(emptyI q.2 && mo p))).map (fun q => omN mo nx n (nx p q.1) q.2)⟩ := by rw [omN, if_neg h4, if_pos h5]
        rw [e, omN, if_neg (show ¬ (5 : Int) = 4 by decide), if_pos rfl]
        simp only [zip_maps]
        have hf : ∀ l : List (ByteArray × IV), (∀ q ∈ l, (!(emptyI q.2 && mo p)) = true) → (l.map (fun a => (a.1, omN mo nx n (nx p a.1) a.2))).filter (fun q => !(emptyI q.2 && mo p)) = l.map (fun a => (a.1, omN mo nx n (nx p a.1) a.2)) := fun l hl => by
          rw [List.filter_eq_self]
          intro q hq
          obtain ⟨a, ha, rfl⟩ := List.mem_map.1 hq
          have := hl a ha
          simpa [omN_empty] using this
        rw [hf _ (fun q hq => (List.mem_filter.1 hq).2), List.map_map, List.map_map]
        congr 1
        refine List.map_congr_left (fun q _ => ?_)
        exact omN_twice n _ q.2
      · have e : omN mo nx (n + 1) p x = x := by rw [omN, if_neg h4, if_neg h5]
        rw [e, e]
theorem omN_more : ∀ (n : Nat) (p : ByteArray) (x : IV), SizeOf.sizeOf x ≤ n → omN mo nx (n + 1) p x = omN mo nx n p x
  | 0, p, x, h => by cases x; simp at h
  | n + 1, p, x, h => by
    have hs : ∀ y ∈ x.f4, SizeOf.sizeOf y ≤ n := fun y hy => by have := size_sub hy; omega
    by_cases h4 : x.f0 = 4
    · rw [omN, if_pos h4, omN, if_pos h4]
      congr 1
      exact List.map_congr_left (fun q hq => omN_more n _ q (hs q (List.mem_filter.1 hq).1))
    · by_cases h5 : x.f0 = 5
      · rw [omN, if_neg h4, if_pos h5, omN, if_neg h4, if_pos h5]
        congr 1
        exact List.map_congr_left (fun q hq => omN_more n _ q.2 (hs q.2 (List.of_mem_zip (List.mem_filter.1 hq).1).2))
      · rw [omN, if_neg h4, if_neg h5, omN, if_neg h4, if_neg h5]
theorem omN_ge {n m : Nat} {p : ByteArray} {x : IV} (h : SizeOf.sizeOf x ≤ n) (hm : n ≤ m) : omN mo nx m p x = omN mo nx n p x := by
  induction hm with
  | refl => rfl
  | step hm ih => rw [omN_more _ p x (Nat.le_trans h hm), ih]
end Go.Proofs.YtadcdjiahekkgaaDoor.A
/- Walks: Path.Next of any part, loader.mustOmit, loader.isEmpty. -/
namespace Go.Proofs.YtadcdjiahekkgaaDoor.A
set_option linter.unusedVariables false
set_option linter.unusedSimpArgs false
set_option linter.unusedSectionVars false
open Go.RowKit Go.Proofs.YtadcdjiahekkgaaDoorW.PrintWords Go.Proofs.YtadcdjiahekkgaaDoorW.PrintLast Go.Proofs.YtadcdjiahekkgaaDoorW.PrintMore Go.Proofs.YtadcdjiahekkgaaDoor.PT Go.Proofs.YtadcdjiahekkgaaDoor.L Go.Proofs.YtadcdjiahekkgaaDoor.SM

theorem tree_NextG (p x : ByteArray) (w : World) (hs : p.size ≤ 2147483647) (hx : x.size ≤ 2147483647) :
    Calls Tryd.prog 65 #[.string p, .string x] w fun e w' => e = .returned (.string (nextP p x)) ∧ Below w.heap.size w w' := by
  by_cases h0 : p.size = 0
  · have hp : p = ⟨#[]⟩ := by
      have := Lib.size_eq p
      rw [h0] at this
      exact data_inj (by simpa using (List.eq_nil_of_length_eq_zero this.symm))
    have hn : nextP p x = x := by unfold nextP; rw [if_pos h0]
    rw [hn]
    subst hp
    clear hn h0 hs
    go_enter Tryd.func65, Tryd.ntmps65
    go_wp2
    go_ret
    exact ⟨rfl, Below.refl _ _⟩
  · have hE : p.toList.isEmpty = false := by rw [isEmpty_of_size, decide_eq_false h0]
    have hE2 : (p.toList == []) = false := by rw [← hE]; cases p.toList <;> rfl
    have hn : nextP p x = p ++ ⟨#[46]⟩ ++ mk (replL x.data.toList) := by unfold nextP; rw [if_neg h0]
    obtain ⟨r, hr⟩ : ∃ r, r = mk (replL x.data.toList) := ⟨_, rfl⟩
    have hrs : r.size ≤ 8589934588 := by
      rw [hr, mk_size]
      have := replL_len x.data.toList
      rw [← Lib.size_eq] at this
      omega
    have HZ := Lib.hid (tree_zzReplaceAll x w hx)
    rw [← hr] at HZ hn
    have HN := Lib.hid hn
    have hs1 : ¬ 9223372036854775807 < p.size + 1 := by omega
    have hs2 : ¬ 9223372036854775807 < p.size + 1 + r.size := by omega
    clear hn hr h0
    go_enter Tryd.func65, Tryd.ntmps65
    go_wp2_with fail
    refine HZ.out.mono ?_
    rintro e w1 ⟨rfl, hb⟩
    go_wp2
    go_ret
    exact ⟨by rw [HN.out]; rfl, hb⟩
abbrev pat0 : ByteArray := ⟨#[115, 101, 114, 118, 105, 99, 101, 115, 46, 42, 46, 100, 110, 115]⟩
abbrev pat1 : ByteArray := ⟨#[106, 111, 98, 115, 46, 42, 46, 100, 110, 115]⟩
def mustB (p : ByteArray) : Bool := matchesB p pat0 || matchesB p pat1
set_option maxRecDepth 100000 in
theorem loader_mustOmit (p : ByteArray) (w : World) (hs : p.size ≤ 2147483647) :
    Calls Tryd.prog 64 #[.string p] w fun e w' => e = .returned (.bool (mustB p)) ∧ Below w.heap.size w w' := by
  obtain ⟨W0, hW0⟩ : ∃ W0 : World, W0 = w.alloc (Obj.cells #[.string pat0, .string pat1] 86) := ⟨_, rfl⟩
  have hb0 : Below w.heap.size w W0 := by rw [hW0]; exact (Below.refl _ _).alloc (Nat.le_refl _) _
  have hz : W0.heap[w.heap.size]? = some (.cells #[.string pat0, .string pat1] 86 (0, 0)) := by rw [hW0]; exact new_atI rfl
  have HB0 := Aside0.mk hb0
  have HZ := Aside0.mk hz
  have HW0 := Lib.hid hW0
  have H0 := Lib.hid (fun u : World => tree_Matches p pat0 u hs (by decide))
  have H1 := Lib.hid (fun u : World => tree_Matches p pat1 u hs (by decide))
  have hm : mustB p = (matchesB p pat0 || matchesB p pat1) := rfl
  obtain ⟨m0, hm0⟩ : ∃ m0, m0 = matchesB p pat0 := ⟨_, rfl⟩
  obtain ⟨m1, hm1⟩ : ∃ m1, m1 = matchesB p pat1 := ⟨_, rfl⟩
  rw [← hm0] at H0 hm
  rw [← hm1] at H1 hm
  rw [hm]
  clear hb0 hz hW0 hm hm0 hm1
  go_enter Tryd.func64, Tryd.ntmps64
  go_wp2
  rw [← HW0.out]
  go_loopw [7] (fun v7 wr => Aside0 (Below w.heap.size w wr ∧ wr.heap[w.heap.size]? = some (.cells #[.string pat0, .string pat1] 86 (0, 0))) ∧ (v7 = .int .i64 0 ∨ (v7 = .int .i64 1 ∧ m0 = false) ∨ (v7 = .int .i64 2 ∧ m0 = false ∧ m1 = false))) (fun v7 _ => 2 - (intOf v7).toNat)
  case atStart => exact ⟨⟨HB0.out, HZ.out⟩, .inl rfl⟩
  case round =>
    obtain ⟨HR, hcase⟩ := hrel
    have c0 : wr.cell? ⟨w.heap.size, 0, none⟩ = some (.string pat0) := (blk_cell HR.out.2 0).trans rfl
    have c1 : wr.cell? ⟨w.heap.size, 1, none⟩ = some (.string pat1) := (blk_cell HR.out.2 1).trans rfl
    rcases hcase with rfl | ⟨rfl, hm0⟩ | ⟨rfl, hm0, hm1⟩
    · go_wp2_with fail
      refine (H0.out wr).mono ?_
      rintro e w1 ⟨rfl, hb⟩
      have HB := Aside0.mk (below_then HR.out.1 HR.out.1.size hb)
      have HZ1 := Aside0.mk (blk_below HR.out.2 hb)
      clear hb c0 c1
      cases m0
      · go_wp2
        go_roundw
        case rel => exact ⟨⟨HB.out, HZ1.out⟩, .inr (.inl ⟨by go_num, by first | trivial | rfl⟩)⟩
        case measure => simp [intOf]
      · go_wp2
        go_ret
        exact ⟨rfl, HB.out⟩
    · subst hm0
      go_wp2_with fail
      refine (H1.out wr).mono ?_
      rintro e w1 ⟨rfl, hb⟩
      have HB := Aside0.mk (below_then HR.out.1 HR.out.1.size hb)
      have HZ1 := Aside0.mk (blk_below HR.out.2 hb)
      clear hb c0 c1
      cases m1
      · go_wp2
        go_roundw
        case rel => exact ⟨⟨HB.out, HZ1.out⟩, .inr (.inr ⟨by go_num, by first | trivial | exact ⟨rfl, rfl⟩ | simp⟩)⟩
        case measure => simp [intOf]
      · go_wp2
        go_ret
        exact ⟨rfl, HB.out⟩
    · subst hm0 hm1
      go_wp2
      go_ret
      exact ⟨rfl, HR.out.1⟩
set_option maxRecDepth 100000 in
theorem loader_isEmpty {w0 : World} {P : Nat → Prop} {x : IV} {v : AV} (h : AnyF w0 P x v) (hx : Fine x) (w : World) :
    Calls Tryd.prog 63 #[v.enc] w fun e w' => e = .returned (.bool (emptyI x)) ∧ w = w' := by
  cases h with
  | nil h =>
    have e : emptyI x = true := by unfold emptyI; rw [decide_eq_true h]; rfl
    rw [e]
    clear e h hx
    unfold AV.enc
    go_enter Tryd.func63, Tryd.ntmps63
    go_wp2
    go_ret
    exact ⟨rfl, rfl⟩
  | bool h =>
    have e : emptyI x = false := by unfold emptyI; rw [h]; rfl
    rw [e]
    clear e h hx
    have e1 := no_string 20 w 4 (.bool (x.f1 != 0)) (by decide)
    unfold AV.enc
    go_enter Tryd.func63, Tryd.ntmps63
    go_wp2
    go_ret
    exact ⟨rfl, rfl⟩
  | int h =>
    have e : emptyI x = false := by unfold emptyI; rw [h]; rfl
    rw [e]
    clear e h hx
    have e1 := no_string 20 w 3 (.int .i64 x.f1) (by decide)
    unfold AV.enc
    go_enter Tryd.func63, Tryd.ntmps63
    go_wp2
    go_ret
    exact ⟨rfl, rfl⟩
  | text h =>
    have e : emptyI x = decide (x.f2 = be) := by unfold emptyI; rw [h]; simp
    rw [e]
    obtain ⟨s, hs⟩ : ∃ s, s = x.f2 := ⟨_, rfl⟩
    rw [← hs]
    clear e h hx hs
    have e1 := as_string 20 w s
    unfold AV.enc
    by_cases hz : s = be
    · rw [decide_eq_true hz]
      subst hz
      go_enter Tryd.func63, Tryd.ntmps63
      go_wp2
      go_ret
      exact ⟨rfl, rfl⟩
    · rw [decide_eq_false hz]
      have ht : ¬ s.toList = [] := fun e => hz (data_inj (by rw [← Lib.toList_data, e]))
      have ht2 : (s.toList == []) = false := by simpa using ht
      have ht3 : s.toList.isEmpty = false := by simpa using ht
      clear hz
      go_enter Tryd.func63, Tryd.ntmps63
      go_wp2
      go_ret
      exact ⟨rfl, rfl⟩
  | @list _ _ A c vs Q h hl hc hr hA hQ hd he =>
    have e : emptyI x = false := by unfold emptyI; rw [h]; rfl
    rw [e]
    obtain ⟨n, hn⟩ : ∃ n, n = vs.length := ⟨_, rfl⟩
    rw [← hn]
    clear e h hx hl hc hr hA hQ hd he hn
    have e1 := no_string 20 w 88 (.slice A n c) (by decide)
    unfold AV.enc
    go_enter Tryd.func63, Tryd.ntmps63
    go_wp2
    go_ret
    exact ⟨rfl, rfl⟩
  | @map _ _ b m Q h hm hP hbQ hQ hd hk hl he =>
    have e : emptyI x = false := by unfold emptyI; rw [h]; rfl
    rw [e]
    clear e h hx hm hP hbQ hQ hd hk hl he
    have e1 := no_string 20 w 59 (.map (some b)) (by decide)
    unfold AV.enc
    go_enter Tryd.func63, Tryd.ntmps63
    go_wp2
    go_ret
    exact ⟨rfl, rfl⟩
end Go.Proofs.YtadcdjiahekkgaaDoor.A
/- A range over a map whose present entry is written or deleted on the way: what is to come stays. No statement. -/
namespace Go.Proofs.YtadcdjiahekkgaaDoor.SM
set_option linter.unusedVariables false
set_option linter.unusedSimpArgs false
set_option linter.unusedSectionVars false
open Go.RowKit Go.MapKept
open Go.ChangeMaps (setBlock)

theorem filter_modify {α : Type} (q : α → Bool) (f : α → α) : ∀ (l : List α) (j : Nat), (∀ x, l[j]? = some x → q x = false ∧ q (f x) = false) → (l.modify j f).filter q = l.filter q
  | [], j, _ => by simp
  | a :: l, 0, h => by
    obtain ⟨h1, h2⟩ := h a rfl
    simp [List.modify_cons, List.filter_cons, h1, h2]
  | a :: l, j + 1, h => by
    simp only [List.modify_cons, Nat.add_one_ne_zero, if_false, List.filter_cons, Nat.add_sub_cancel]
    rw [filter_modify q f l j (fun x hx => h x (by simpa using hx))]
theorem filter_erase {α : Type} (q : α → Bool) : ∀ (l : List α) (j : Nat), (∀ x, l[j]? = some x → q x = false) → (l.eraseIdx j).filter q = l.filter q
  | [], j, _ => by simp
  | a :: l, 0, h => by simp [List.filter_cons, h a rfl]
  | a :: l, j + 1, h => by
    simp only [List.eraseIdx_cons_succ, List.filter_cons]
    rw [filter_erase q l j (fun x hx => h x (by simpa using hx))]
section
variable {w : World} {b r : Nat} {l rest : Ents} {P : Program} {t k e : TypeId}
theorem seen_of {es : Array MapEntry} {seen : Array Nat} (hl : (leftOf es seen).toList.map kv = rest.map enc) {x : MapEntry} (hx : x ∈ es.toList) {s : ByteArray} (hk : x.key = .string s) (hn : s ∉ keys rest) : seen.contains x.born = true := by
  cases hc : seen.contains x.born with
  | true => rfl
  | false =>
    exfalso
    have hm : x ∈ (leftOf es seen).toList := by
      unfold leftOf
      rw [Array.toList_filter, List.mem_filter]
      exact ⟨hx, by simpa using hc⟩
    have h1 : kv x ∈ rest.map enc := by rw [← hl]; exact List.mem_map_of_mem hm
    obtain ⟨p, hp, hpe⟩ := List.mem_map.1 h1
    have : Value.string p.1 = .string s := (congrArg Prod.fst hpe).trans hk
    injection this with this
    exact hn (by rw [← this]; exact List.mem_map_of_mem hp)
theorem rng_put (ht : P.underlying t = some (.map k e)) (hk : P.underlying k = some .string) (h : SRng w b r l rest) (hne : b ≠ r) (s : ByteArray) (v : Value) (hin : s ∈ keys l) (hrest : s ∉ keys rest) :
    ∃ o, (Instr.mapUpdate t (.map (some b)) (.string s) v).run P w = .ok () (setBlock w b o) ∧ SRng (setBlock w b o) b r (put l s v) rest := by
  obtain ⟨es, clock, since, seen, c0, hb, hs, he, hr, hold, hsc, hl⟩ := h
  have hkey : IsKey .string (.string s) := trivial
  rcases findNow_spec hkey es.toList 0 (isKeys he) with ⟨h1, h2⟩ | ⟨j, x, h1, h2, h3⟩
  · exact absurd hin (has_false.1 (none_of he h2))
  · obtain ⟨p, hp, hp1, hp2⟩ := ent_at he j h2
    have h3' := h3
    rw [h3] at hp1
    obtain rfl : s = p.1 := by injection hp1
    have h5 := find_of (nodup_of hs he) hp
    have h4 := (look_some h5).2
    have hj : es[j]? = some x := by simpa using h2
    have hsx := seen_of hl (List.mem_of_getElem? h2) h3' hrest
    refine ⟨.map (es.modify j fun e => { key := .string p.1, val := v, born := e.born }) clock, by simp [Instr.mapUpdate, run_underlying ht, MapKept.run_getObj_map hb, run_checkKey hk hkey, run_findKey hk h1, hj, h3, run_keyThatStays hkey, MapKept.run_setObj_map _ hb, Result.andThen, setBlock], es.modify j fun e => { key := .string p.1, val := v, born := e.born }, clock, since, seen, c0, (MapKept.heap_set hb).1, stamped_modify hs _ _ (fun _ _ => rfl) (fun e' _ he' => by rw [hj] at he'; cases he'; exact h3.symm), ?_, (setBlock_other w b _ (Ne.symm hne)).trans hr, ?_, hsc, ?_⟩
    · rw [kv_modify, he, put, h4, if_pos rfl, map_put (nodup_of hs he) hp, List.map_set]
      rfl
    · intro y hy
      obtain ⟨i, hi⟩ := List.getElem?_of_mem hy
      rw [Array.getElem?_toList, Array.getElem?_modify] at hi
      split at hi
      · cases he2 : es[i]? with
        | none => rw [he2] at hi; cases hi
        | some z =>
          rw [he2] at hi
          injection hi with hi
          rw [← hi]
          exact hold z (List.mem_of_getElem? (by rw [Array.getElem?_toList]; exact he2))
      · exact hold y (List.mem_of_getElem? (by rw [Array.getElem?_toList]; exact hi))
    · rw [← hl]
      unfold leftOf
      rw [Array.toList_filter, Array.toList_filter, Array.toList_modify, filter_modify]
      intro y hy
      rw [h2] at hy
      injection hy with hy
      subst hy
      exact ⟨by rw [hsx]; rfl, by show (!seen.contains x.born) = false; rw [hsx]; rfl⟩
theorem rng_del (ht : P.underlying t = some (.map k e)) (hk : P.underlying k = some .string) (h : SRng w b r l rest) (hne : b ≠ r) (s : ByteArray) (k' ty : TypeId) (hrest : s ∉ keys rest) :
    ∃ o, (Builtin.delete_ #[t, k'] ty #[.map (some b), .string s]).run P w = .ok (.tuple #[]) (setBlock w b o) ∧ SRng (setBlock w b o) b r (del l s) rest := by
  obtain ⟨es, clock, since, seen, c0, hb, hs, he, hr, hold, hsc, hl⟩ := h
  have hkey : IsKey .string (.string s) := trivial
  rcases findNow_spec hkey es.toList 0 (isKeys he) with ⟨h1, h2⟩ | ⟨j, x, h1, h2, h3⟩
  · refine ⟨.map es clock, by simp [Builtin.delete_, run_underlying ht, MapKept.run_getObj_map hb, run_checkKey hk hkey, run_findKey hk h1, MapKept.run_setObj_map _ hb, Result.andThen, setBlock], es, clock, since, seen, c0, (MapKept.heap_set hb).1, hs, ?_, (setBlock_other w b _ (Ne.symm hne)).trans hr, hold, hsc, hl⟩
    have h4 := none_of he h2
    have : del l s = l := List.filter_eq_self.2 (fun a ha => by
      simp
      exact fun e => (has_false.1 h4) (by rw [← e]; exact List.mem_map_of_mem ha))
    rw [this]
    exact he
  · obtain ⟨p, hp, hp1, hp2⟩ := ent_at he j h2
    have h3' := h3
    rw [h3] at hp1
    obtain rfl : s = p.1 := by injection hp1
    have hj : es[j]? = some x := by simpa using h2
    have hsx := seen_of hl (List.mem_of_getElem? h2) h3' hrest
    refine ⟨.map (es.eraseIdxIfInBounds j) clock, by simp [Builtin.delete_, run_underlying ht, MapKept.run_getObj_map hb, run_checkKey hk hkey, run_findKey hk h1, MapKept.run_setObj_map _ hb, Result.andThen, setBlock], es.eraseIdxIfInBounds j, clock, since, seen, c0, (MapKept.heap_set hb).1, stamped_erase hs _, ?_, (setBlock_other w b _ (Ne.symm hne)).trans hr, ?_, hsc, ?_⟩
    · rw [kv_erase, he, del_at (nodup_of hs he) hp, ChangeMaps.map_eraseIdx]
    · intro y hy
      refine hold y ?_
      rw [Array.toList_eraseIdxIfInBounds] at hy
      exact List.mem_of_mem_eraseIdx hy
    · rw [← hl]
      unfold leftOf
      rw [Array.toList_filter, Array.toList_filter, Array.toList_eraseIdxIfInBounds, filter_erase]
      intro y hy
      rw [h2] at hy
      injection hy with hy
      subst hy
      rw [hsx]; rfl
end
end Go.Proofs.YtadcdjiahekkgaaDoor.SM
/- The state of loader.omitEmpty's loop over a map, and its steps; plain. -/
namespace Go.Proofs.YtadcdjiahekkgaaDoor.A
set_option linter.unusedVariables false
set_option linter.unusedSimpArgs false
set_option linter.unusedSectionVars false
open Go.RowKit Go.Proofs.YtadcdjiahekkgaaDoorW.PrintWords Go.Proofs.YtadcdjiahekkgaaDoorW.PrintLast Go.Proofs.YtadcdjiahekkgaaDoorW.PrintMore Go.Proofs.YtadcdjiahekkgaaDoor.PT Go.Proofs.YtadcdjiahekkgaaDoor.L Go.Proofs.YtadcdjiahekkgaaDoor.SM

/-- a world that has changed in blocks of P alone, and grown -/
structure Only (P : Nat → Prop) (w w' : World) : Prop where
  os : w'.os = w.os
  tape : w'.tape = w.tape
  output : w'.output = w.output
  size : w.heap.size ≤ w'.heap.size
  block : ∀ k, k < w.heap.size → ¬ P k → w'.heap[k]? = w.heap[k]?
theorem Only.refl (P : Nat → Prop) (w : World) : Only P w w := ⟨rfl, rfl, rfl, Nat.le_refl _, fun _ _ _ => rfl⟩
theorem Only.trans {P P' : Nat → Prop} {a b c : World} (h : Only P a b) (k : Only P' b c) (hP : ∀ q, P' q → q < a.heap.size → P q) : Only P a c :=
  ⟨k.os.trans h.os, k.tape.trans h.tape, k.output.trans h.output, Nat.le_trans h.size k.size, fun q hq hn => (k.block q (Nat.lt_of_lt_of_le hq h.size) (fun e => hn (hP q e hq))).trans (h.block q hq hn)⟩
theorem Only.of_below {P : Nat → Prop} {w w' : World} (h : Below w.heap.size w w') : Only P w w' := ⟨h.os, h.tape, h.output, h.size, fun k hk _ => h.block k hk⟩
theorem Only.of_grown {P : Nat → Prop} {w w' : World} {b : Nat} (h : w.grownBy w' (some b)) (hb : P b) : Only P w w' := ⟨h.os, h.tape, h.output, h.size, fun k hk hn => h.block k hk (fun e => by injection e with e; exact hn (e ▸ hb))⟩
theorem Only.toBelow {P : Nat → Prop} {B : Nat} {w w' : World} (h : Only P w w') (hP : ∀ k, P k → B ≤ k) (hB : B ≤ w.heap.size) : Below B w w' := ⟨h.os, h.tape, h.output, h.size, fun k hk => h.block k (Nat.lt_of_lt_of_le hk hB) (fun e => by have := hP k e; omega)⟩
theorem AV.enc_inj {a b : AV} (h : a.enc = b.enc) : a = b := by
  cases a <;> cases b <;> simp_all [AV.enc]
theorem rng_mem_of {w : World} {b r : Nat} {l rm : List (ByteArray × AV)} (h : TRng w b r AV.enc l rm) {q : ByteArray × AV} (hq : q ∈ rm) : q ∈ l := by
  obtain ⟨es, clock, since, seen, c0, hb, hs, he, hr, hold, hsc, hl⟩ := h
  have h1 : SM.enc (q.1, q.2.enc) ∈ (mapE AV.enc rm).map SM.enc := List.mem_map_of_mem (List.mem_map_of_mem (f := fun p : ByteArray × AV => (p.1, p.2.enc)) hq)
  rw [← hl] at h1
  obtain ⟨x, hx, hxe⟩ := List.mem_map.1 h1
  have hx2 : x ∈ es.toList := by
    unfold leftOf at hx
    rw [Array.toList_filter] at hx
    exact (List.mem_filter.1 hx).1
  have h2 : kv x ∈ (mapE AV.enc l).map SM.enc := by rw [← he]; exact List.mem_map_of_mem hx2
  rw [hxe] at h2
  obtain ⟨u, hu, hue⟩ := List.mem_map.1 h2
  obtain ⟨z, hz, rfl⟩ := List.mem_map.1 hu
  have e1 : Value.string z.1 = .string q.1 := congrArg Prod.fst hue
  have e2 : z.2.enc = q.2.enc := congrArg Prod.snd hue
  injection e1 with e1
  have : z = q := Prod.ext e1 (AV.enc_inj e2)
  rw [← this]
  exact hz
theorem mem_keys_del {β : Type} {rm : List (ByteArray × β)} {s k : ByteArray} : k ∈ SM.keys (del rm s) ↔ k ≠ s ∧ k ∈ SM.keys rm := by
  unfold SM.keys
  constructor
  · intro h
    obtain ⟨q, hq, rfl⟩ := List.mem_map.1 h
    have := (mem_del q).1 hq
    exact ⟨this.1, List.mem_map_of_mem this.2⟩
  · rintro ⟨h1, h2⟩
    obtain ⟨q, hq, rfl⟩ := List.mem_map.1 h2
    exact List.mem_map_of_mem ((mem_del q).2 ⟨h1, hq⟩)
theorem hd_same {β : Type} {rm : List (ByteArray × β)} {k : ByteArray} : SM.has (del rm k) k = false := has_false.2 (fun h => (mem_keys_del.1 h).1 rfl)
theorem hd_other {β : Type} {rm : List (ByteArray × β)} {k s : ByteArray} (hn : k ≠ s) : SM.has (del rm s) k = SM.has rm k := by
  rw [Bool.eq_iff_iff, has_iff, has_iff, mem_keys_del]
  exact ⟨fun h => h.2, fun h => ⟨hn, h⟩⟩
/-- what is left of the entries so far -/
def keepQ (p : ByteArray) (rm : List (ByteArray × AV)) (q : ByteArray × IV) : Bool := SM.has rm q.1 || !(emptyI q.2 && mustB p)
def curI (n : Nat) (p : ByteArray) (rm : List (ByteArray × AV)) (k : ByteArray) (y : IV) : IV := if SM.has rm k = true then y else omN mustB nextP n (nextP p k) y
structure OM (n : Nat) (p : ByteArray) (x : IV) (P : Nat → Prop) (Q : ByteArray → Nat → Prop) (b r : Nat) (w wr : World) (l rm : List (ByteArray × AV)) (G : ByteArray → Nat → Prop) : Prop where
  rng : TRng wr b r AV.enc l rm
  keys : l.map (·.1) = ((x.f3.zip x.f4).filter (keepQ p rm)).map (·.1)
  kid : ∀ q ∈ l, ∃ y, (q.1, y) ∈ x.f3.zip x.f4 ∧ AnyF wr (G q.1) (curI n p rm q.1 y) q.2
  foot : ∀ k q, G k q → q < wr.heap.size ∧ (Q k q ∨ w.heap.size < q)
  apart : ∀ k k' q, G k q → G k' q → k = k'
  only : Only P w wr
theorem zip_val {x : IV} (hn : x.f3.Nodup) {k : ByteArray} {y z : IV} (h1 : (k, y) ∈ x.f3.zip x.f4) (h2 : (k, z) ∈ x.f3.zip x.f4) : y = z := by
  obtain ⟨i, hi⟩ := List.getElem?_of_mem h1
  obtain ⟨j, hj⟩ := List.getElem?_of_mem h2
  rw [List.getElem?_zip_eq_some] at hi hj
  have : i = j := by
    obtain ⟨a1, a2⟩ := List.getElem?_eq_some_iff.1 hi.1
    obtain ⟨b1, b2⟩ := List.getElem?_eq_some_iff.1 hj.1
    exact (List.getElem_inj hn).1 (a2.trans b2.symm)
  subst this
  have := hi.2.symm.trans hj.2
  injection this
variable {n : Nat} {p : ByteArray} {x : IV} {P : Nat → Prop} {Q G : ByteArray → Nat → Prop} {b r : Nat} {w wr w2 w3 : World} {l rm : List (ByteArray × AV)}
/-- the next entry is taken: the iterator's block alone has changed -/
theorem OM.taken_kid (h : OM n p x P Q b r w wr l rm G) (hr : r = w.heap.size) (hQ : ∀ k q, Q k q → q < w.heap.size) (hg : wr.grownBy w2 (some r)) : ∀ q ∈ l, ∃ y, (q.1, y) ∈ x.f3.zip x.f4 ∧ AnyF w2 (G q.1) (curI n p rm q.1 y) q.2 := fun q hq => by
  obtain ⟨y, hy, ha⟩ := h.kid q hq
  refine ⟨y, hy, ha.kept (fun k hk hlt => hg.block k hlt (fun e => ?_))⟩
  injection e with e
  subst e
  rcases (h.foot _ _ hk).2 with h1 | h1
  · have := hQ _ _ h1; omega
  · omega
theorem OM.del_ (h : OM n p x P Q b r w wr l rm G) (hn : x.f3.Nodup) (hr : r = w.heap.size) (hQ : ∀ k q, Q k q → q < w.heap.size) (hbQ : ∀ k, ¬ Q k b) (hbw : b < w.heap.size) (hP : P b) {qk : ByteArray} {y : IV} (hy : (qk, y) ∈ x.f3.zip x.f4)
    (he : emptyI y = true) (hm : mustB p = true) (hg : wr.grownBy w2 (some r)) (hg3 : w2.grownBy w3 (some b)) (ht : TRng w3 b r AV.enc (del l qk) (del rm qk)) : OM n p x P Q b r w w3 (del l qk) (del rm qk) G := by
  have hne : ∀ k q, G k q → q ≠ b := fun k q hk e => by
    subst e
    rcases (h.foot _ _ hk).2 with h1 | h1
    · exact hbQ _ h1
    · omega
  refine ⟨ht, ?_, ?_, fun k q hk => ⟨Nat.lt_of_lt_of_le (h.foot k q hk).1 (Nat.le_trans hg.size hg3.size), (h.foot k q hk).2⟩, h.apart, ?_⟩
  · have e1 : (del l qk).map (·.1) = (l.map (·.1)).filter (fun k => decide (k ≠ qk)) := by unfold del; rw [List.filter_map]; rfl
    rw [e1, h.keys, List.filter_map, List.filter_filter]
    congr 1
    refine List.filter_congr (fun q hq => ?_)
    unfold keepQ
    by_cases e : q.1 = qk
    · have e2 : q.2 = y := zip_val hn (k := qk) (by rw [← e]; exact hq) hy
      rw [e2, he, hm, e, hd_same]
      simp [e]
    · rw [hd_other e]
      simp [e]
  · intro q hq
    have hq2 := (mem_del q).1 hq
    obtain ⟨z, hz, ha⟩ := h.taken_kid hr hQ hg q hq2.2
    refine ⟨z, hz, ?_⟩
    have ec : curI n p (del rm qk) q.1 z = curI n p rm q.1 z := by
      unfold curI
      rw [hd_other hq2.1]
    rw [ec]
    exact ha.kept (fun k hk hlt => hg3.block k hlt (fun e => by injection e with e; exact hne _ _ hk e))
  · have h1 : Only (fun k => k = r) wr w2 := Only.of_grown hg rfl
    have h2 := h.only.trans h1 (fun q e hlt => by omega)
    exact h2.trans (Only.of_grown (P := fun k => k = b) hg3 rfl) (fun q e _ => by rw [e]; exact hP)
/-- an entry's value is put in its place: w4 behind the call, w3 behind the write -/
theorem OM.put_ {w4 : World} (h : OM n p x P Q b r w wr l rm G) (hn : x.f3.Nodup) (hr : r = w.heap.size) (hQ : ∀ k q, Q k q → q < w.heap.size) (hQP : ∀ k q, Q k q → P q) (hbQ : ∀ k, ¬ Q k b) (hbw : b < w.heap.size) (hP : P b) {qk : ByteArray} {y : IV} {v' : AV} (hy : (qk, y) ∈ x.f3.zip x.f4) (hqm : qk ∈ SM.keys rm)
    (he : (emptyI y && mustB p) = false) (hg : wr.grownBy w2 (some r)) (hO : Only (G qk) w2 w4) (ha' : AnyF w4 (fun k => G qk k ∨ (w2.heap.size ≤ k ∧ k < w4.heap.size)) (omN mustB nextP n (nextP p qk) y) v')
    (hg3 : w4.grownBy w3 (some b)) (hs3 : w3.heap.size = w4.heap.size) (ht : TRng w3 b r AV.enc (put l qk v') (del rm qk)) : OM n p x P Q b r w w3 (put l qk v') (del rm qk) (fun k q => G k q ∨ (k = qk ∧ w2.heap.size ≤ q ∧ q < w4.heap.size)) := by
  have hne : ∀ k q, G k q → q ≠ b := fun k q hk e => by
    subst e
    rcases (h.foot _ _ hk).2 with h1 | h1
    · exact hbQ _ h1
    · omega
  have hws : w.heap.size ≤ wr.heap.size := h.only.size
  have hgs := hg.size
  have hin : qk ∈ SM.keys l := by
    unfold SM.keys at hqm ⊢
    obtain ⟨z, hz, e⟩ := List.mem_map.1 hqm
    exact List.mem_map.2 ⟨z, rng_mem_of h.rng hz, e⟩
  have hhas : has l qk = true := has_iff.2 hin
  refine ⟨ht, ?_, ?_, ?_, ?_, ?_⟩
  · have e1 : (put l qk v').map (·.1) = l.map (·.1) := by
      unfold put
      rw [if_pos hhas, List.map_map]
      refine List.map_congr_left (fun q _ => ?_)
      show (if q.1 = qk then (qk, v') else q).1 = q.1
      split
      · rename_i e; exact e.symm
      · rfl
    rw [e1, h.keys]
    congr 1
    refine List.filter_congr (fun q hq => ?_)
    unfold keepQ
    by_cases e : q.1 = qk
    · have e2 : q.2 = y := zip_val hn (k := qk) (by rw [← e]; exact hq) hy
      rw [e2, he, e, has_iff.2 hqm]
      simp
    · rw [hd_other e]
  · intro q hq
    rcases (mem_put q).1 hq with rfl | ⟨hqn, hql⟩
    · refine ⟨y, hy, ?_⟩
      have ec : curI n p (del rm qk) qk y = omN mustB nextP n (nextP p qk) y := by
        unfold curI
        rw [hd_same, if_neg (by decide)]
      show AnyF w3 _ (curI n p (del rm qk) qk y) v'
      rw [ec]
      refine (ha'.kept (fun k hk hlt => hg3.block k hlt (fun e => ?_))).imp (fun k hk => ?_)
      · injection e with e
        rcases hk with hk | hk
        · exact hne _ _ hk e
        · omega
      · rcases hk with hk | hk
        · exact .inl hk
        · exact .inr ⟨rfl, hk⟩
    · obtain ⟨z, hz, ha⟩ := h.taken_kid hr hQ hg q hql
      refine ⟨z, hz, ?_⟩
      have ec : curI n p (del rm qk) q.1 z = curI n p rm q.1 z := by
        unfold curI
        rw [hd_other hqn]
      rw [ec]
      have h4 : AnyF w4 (G q.1) (curI n p rm q.1 z) q.2 := ha.kept (fun k hk hlt => hO.block k hlt (fun e => hqn (h.apart _ _ k hk e)))
      exact (h4.kept (fun k hk hlt => hg3.block k hlt (fun e => by injection e with e; exact hne _ _ hk e))).imp (fun k hk => .inl hk)
  · intro k q hk
    have := hO.size
    have := hg.size
    rcases hk with hk | ⟨_, h1, h2⟩
    · exact ⟨by have := (h.foot k q hk).1; omega, (h.foot k q hk).2⟩
    · exact ⟨by omega, .inr (by have := h.rng.lt; omega)⟩
  · intro k k' q h1 h2
    have := hg.size
    rcases h1 with h1 | ⟨e1, h1, _⟩
    · rcases h2 with h2 | ⟨e2, h2, _⟩
      · exact h.apart k k' q h1 h2
      · have := (h.foot k q h1).1; omega
    · rcases h2 with h2 | ⟨e2, h2, _⟩
      · have := (h.foot k' q h2).1; omega
      · rw [e1, e2]
  · have h1 := h.only.trans (Only.of_grown (P := fun k => k = r) hg rfl) (fun q e hlt => by omega)
    have h2 := h1.trans hO (fun q e hlt => by
      rcases (h.foot _ _ e).2 with h3 | h3
      · exact hQP _ _ h3
      · omega)
    exact h2.trans (Only.of_grown (P := fun k => k = b) hg3 rfl) (fun q e _ => by rw [e]; exact hP)
/-- at the end -/
theorem OM.done (h : OM n p x P Q b r w wr l [] G) (h5 : x.f0 = 5) (hn : x.f3.Nodup) (hQP : ∀ k q, Q k q → P q) (hbQ : ∀ k, ¬ Q k b) (hbw : b < w.heap.size) (hP : P b) : AnyF wr (fun k => P k ∨ (w.heap.size ≤ k ∧ k < wr.heap.size)) (omN mustB nextP (n + 1) p x) (.map b) := by
  have e : omN mustB nextP (n + 1) p x = ⟨5, x.f1, x.f2, ((x.f3.zip x.f4).filter (fun q => !(emptyI q.2 && mustB p))).map (·.1), ((x.f3.zip x.f4).filter (fun q => !(emptyI q.2 && mustB p))).map (fun q => omN mustB nextP n (nextP p q.1) q.2)⟩ := by rw [omN, if_neg (by rw [h5]; decide), if_pos h5]
  rw [e]
  have hk : (x.f3.zip x.f4).filter (keepQ p []) = (x.f3.zip x.f4).filter (fun q => !(emptyI q.2 && mustB p)) := List.filter_congr (fun q _ => by simp [keepQ, SM.has])
  have hkeys := h.keys
  rw [hk] at hkeys
  obtain ⟨K, hK⟩ : ∃ K, K = (x.f3.zip x.f4).filter (fun q => !(emptyI q.2 && mustB p)) := ⟨_, rfl⟩
  have hKm : ∀ q ∈ K, q ∈ x.f3.zip x.f4 := fun q hq => by rw [hK] at hq; exact (List.mem_filter.1 hq).1
  rw [← hK] at hkeys ⊢
  have hlen : l.length = K.length := by have := congrArg List.length hkeys; simpa using this
  refine .map G rfl h.rng.map (.inl hP) (fun k hk => ?_) (fun k q hk => ?_) h.apart hkeys (by simpa using hlen) (fun i h1 h2 => ?_)
  · rcases (h.foot _ _ hk).2 with h3 | h3
    · exact hbQ _ h3
    · omega
  · have h4 := (h.foot _ _ hk).1
    rcases (h.foot _ _ hk).2 with h3 | h3
    · exact .inl (hQP _ _ h3)
    · exact .inr ⟨by omega, h4⟩
  · obtain ⟨y, hy, ha⟩ := h.kid _ (List.getElem_mem h2)
    have hiK : i < K.length := by rw [← hlen]; exact h2
    have e1 : (l[i]'h2).1 = (K[i]'hiK).1 := by
      have : (l.map (·.1))[i]'(by simpa using h2) = (K.map (·.1))[i]'(by simpa using hiK) := by simp only [hkeys]
      simpa using this
    have e2 : y = (K[i]'hiK).2 := zip_val hn (k := (l[i]'h2).1) hy (by rw [e1]; exact hKm _ (List.getElem_mem hiK))
    have e3 : ((K.map (fun q => omN mustB nextP n (nextP p q.1) q.2))[i]'(by simpa using hiK)) = omN mustB nextP n (nextP p (l[i]'h2).1) y := by rw [List.getElem_map, e1, e2]
    have e4 : curI n p [] (l[i]'h2).1 y = omN mustB nextP n (nextP p (l[i]'h2).1) y := by unfold curI; rw [if_neg (by simp [SM.has])]
    rw [e4, ← e3] at ha
    exact ha
end Go.Proofs.YtadcdjiahekkgaaDoor.A
/- The walk of loader.omitEmpty. -/
namespace Go.Proofs.YtadcdjiahekkgaaDoor.SM
set_option linter.unusedVariables false
set_option linter.unusedSimpArgs false
set_option linter.unusedSectionVars false
open Go.RowKit Go.MapKept
section
variable {w : World} {b r : Nat} {P : Program} {t k e : TypeId} {β : Type} {cenc : β → Value} {m rm : List (ByteArray × β)} {ops : Array Oper} {os : List Oper} {o : Oper} {a : Act} {Q : Exit → Act → World → Prop}
theorem TRng.move {w' : World} (h : TRng w b r cenc m rm) (hm : w'.heap[b]? = w.heap[b]?) (hm' : w'.heap[r]? = w.heap[r]?) : TRng w' b r cenc m rm := SRng.move h hm hm'
/-- the write of an entry that is there, in the round -/
theorem wp_putR (hg : o.guard = none) (mo xo vo : Operand) (hop : o.op = Op.mapUpdate t mo xo vo) (ht : P.underlying t = some (.map k e)) (hk : P.underlying k = some .string)
    (hm : a.eval mo = .map (some b)) (h : TRng w b r cenc m rm) (hne : b ≠ r) (s : ByteArray) (v : β) (hin : s ∈ keys m) (hrest : s ∉ keys rm) (hx : a.eval xo = .string s) (hv : a.eval vo = cenc v)
    (hK : ∀ w', TRng w' b r cenc (put m s v) rm → w.grownBy w' (some b) → w'.heap.size = w.heap.size → wpList P ops Q os (a.put o.dst undef) w') : wpList P ops Q (o :: os) a w := by
  refine wpList_plain hg fun K' hK' => ?_
  obtain ⟨ob, hrun, hs⟩ := rng_put (P := P) ht hk h hne s (cenc v) (by rw [keys_mapE]; exact hin) (by rw [keys_mapE]; exact hrest)
  rw [put_mapE] at hs
  unfold Oper.wp
  simp [execOp, hop, hm, hx, hv, hrun, Result.andThen]
  exact hK' _ _ (hK _ hs (setBlock_grown w b ob) (setBlock_size w b ob))
/-- the delete of an entry in the round -/
theorem wp_delR (hg : o.guard = none) (mo xo : Operand) (k' : TypeId) (hop : o.op = Op.call { callee := Callee.builtin Builtin.delete, args := #[mo, xo], argTypes := #[t, k'] }) (ht : P.underlying t = some (.map k e)) (hk : P.underlying k = some .string)
    (hm : a.eval mo = .map (some b)) (h : TRng w b r cenc m rm) (hne : b ≠ r) (s : ByteArray) (hrest : s ∉ keys rm) (hx : a.eval xo = .string s)
    (hK : ∀ w', TRng w' b r cenc (del m s) rm → w.grownBy w' (some b) → w'.heap.size = w.heap.size → wpList P ops Q os (a.put o.dst (.tuple #[])) w') : wpList P ops Q (o :: os) a w := by
  refine wpList_plain hg fun K' hK' => ?_
  obtain ⟨ob, hrun, hs⟩ := rng_del (P := P) ht hk h hne s k' o.type (by rw [keys_mapE]; exact hrest)
  rw [del_mapE] at hs
  unfold Oper.wp
  simp [execOp, hop, resolve, invoke, builtin, hm, hx, hrun, Result.andThen]
  exact hK' _ _ (hK _ hs (setBlock_grown w b ob) (setBlock_size w b ob))
end
end Go.Proofs.YtadcdjiahekkgaaDoor.SM
namespace Go.Proofs.YtadcdjiahekkgaaDoor.A
open Go.RowKit Go.Proofs.YtadcdjiahekkgaaDoorW.PrintWords Go.Proofs.YtadcdjiahekkgaaDoorW.PrintLast Go.Proofs.YtadcdjiahekkgaaDoorW.PrintMore Go.Proofs.YtadcdjiahekkgaaDoor.PT Go.Proofs.YtadcdjiahekkgaaDoor.L Go.Proofs.YtadcdjiahekkgaaDoor.SM

/-! ### how much a value holds -/
def wtI : IV → Nat
  | ⟨_, _, s, ks, vs⟩ => 1 + s.size + (ks.map (fun k => k.size + 1)).sum + (vs.attach.map (fun v => wtI v.1)).sum
termination_by x => SizeOf.sizeOf x
decreasing_by
  have := List.sizeOf_lt_of_mem v.2
  simp only [S32.mk.sizeOf_spec]
  omega
theorem wtI_eq (x : IV) : wtI x = 1 + x.f2.size + ksum x.f3 + (x.f4.map wtI).sum := by
  cases x with
  | mk a b s ks vs => rw [wtI]; simp [ksum, List.attach_map_val]
theorem mem_sum {l : List Nat} {a : Nat} (h : a ∈ l) : a ≤ l.sum := by
  induction l with
  | nil => cases h
  | cons b l ih =>
    rw [List.sum_cons]
    rcases List.mem_cons.1 h with rfl | h
    · omega
    · have := ih h; omega
theorem wtI_sub {x y : IV} (h : y ∈ x.f4) : wtI y + 1 ≤ wtI x := by
  rw [wtI_eq x]
  have := mem_sum (List.mem_map_of_mem (f := wtI) h)
  omega
theorem wtI_key {x y : IV} {k : ByteArray} (h : (k, y) ∈ x.f3.zip x.f4) : wtI y + k.size + 2 ≤ wtI x := by
  rw [wtI_eq x]
  have h1 := mem_sum (List.mem_map_of_mem (f := wtI) (List.of_mem_zip h).2)
  have h2 := mem_sum (List.mem_map_of_mem (f := fun k : ByteArray => k.size + 1) (List.of_mem_zip h).1)
  unfold ksum
  omega
theorem grown_below {w w1 w2 : World} {row : Option Nat} (h : w.grownBy w1 row) (hb : Below w1.heap.size w1 w2) : w.grownBy w2 row :=
  ⟨hb.os.trans h.os, hb.tape.trans h.tape, hb.output.trans h.output, Nat.le_trans h.size hb.size, fun k hk hn => (hb.block k (Nat.lt_of_lt_of_le hk h.size)).trans (h.block k hk hn)⟩
def OmitC (n : Nat) : Prop := ∀ (x : IV) (v : AV) (P : Nat → Prop) (p : ByteArray) (w : World), AnyF w P x v → Fine x → SizeOf.sizeOf x ≤ n → (∀ k, P k → k < w.heap.size) → p.size + 9 * wtI x ≤ 2147483647 →
  Calls Tryd.prog 49 #[v.enc, .string p] w fun e w' => ∃ v' : AV, e = .returned v'.enc ∧ AnyF w' (fun k => P k ∨ (w.heap.size ≤ k ∧ k < w'.heap.size)) (omN mustB nextP n p x) v' ∧ Only P w w'
theorem OmitC.use {n : Nat} (h : OmitC n) {x : IV} {v : AV} {P : Nat → Prop} {p : ByteArray} {w : World} (h1 : AnyF w P x v) (h2 : Fine x) (h3 : SizeOf.sizeOf x ≤ n) (h4 : ∀ k, P k → k < w.heap.size) (h5 : p.size + 9 * wtI x ≤ 2147483647) :
    Calls Tryd.prog 49 #[v.enc, .string p] w fun e w' => ∃ v' : AV, e = .returned v'.enc ∧ AnyF w' (fun k => P k ∨ (w.heap.size ≤ k ∧ k < w'.heap.size)) (omN mustB nextP n p x) v' ∧ Only P w w' := h x v P p w h1 h2 h3 h4 h5
theorem omN_flat {n : Nat} {p : ByteArray} {x : IV} (h4 : x.f0 ≠ 4) (h5 : x.f0 ≠ 5) : omN mustB nextP n p x = x := by
  cases n with
  | zero => rfl
  | succ n => rw [omN, if_neg h4, if_neg h5]
theorem Fine.sub {x y : IV} (h : Fine x) (hy : y ∈ x.f4) : Fine y := by
  cases h with
  | nil => cases hy
  | bool => cases hy
  | int => cases hy
  | text => cases hy
  | list hb he => exact he y hy
  | map ha hl hb he => exact he y hy
theorem Fine.nodup {x : IV} (h : Fine x) : x.f3.Nodup := by
  cases h with
  | nil => exact List.nodup_nil
  | bool => exact List.nodup_nil
  | int => exact List.nodup_nil
  | text => exact List.nodup_nil
  | list hb he => exact List.nodup_nil
  | map ha hl hb he => exact asc_nodup ha
end Go.Proofs.YtadcdjiahekkgaaDoor.A
/- The walk of loader.omitEmpty: scalars; a map. -/
namespace Go.Proofs.YtadcdjiahekkgaaDoor.A
set_option linter.unusedVariables false
set_option linter.unusedSimpArgs false
set_option linter.unusedSectionVars false
open Go.RowKit Go.Proofs.YtadcdjiahekkgaaDoorW.PrintWords Go.Proofs.YtadcdjiahekkgaaDoorW.PrintLast Go.Proofs.YtadcdjiahekkgaaDoorW.PrintMore Go.Proofs.YtadcdjiahekkgaaDoor.PT Go.Proofs.YtadcdjiahekkgaaDoor.L Go.Proofs.YtadcdjiahekkgaaDoor.SM

set_option maxRecDepth 100000 in
theorem omit_flat {x : IV} {v : AV} {P : Nat → Prop} {p : ByteArray} {w : World} (h : AnyF w P x v) (h4 : x.f0 ≠ 4) (h5 : x.f0 ≠ 5) :
    Calls Tryd.prog 49 #[v.enc, .string p] w fun e w' => e = .returned v.enc ∧ w = w' := by
  cases h with
  | nil h =>
    have e1 : (Instr.typeAssert .nilIface 20 59 true).run Tryd.prog w = .ok (.tuple #[.map none, .bool false]) w := by
      have hz : (zeroValue 59).run Tryd.prog w = .ok (.map none) w := by kernel_rfl
      simp [Instr.typeAssert, run_underlying Tryd.underlying59, go_sem, Result.andThen, hz]
    have e2 : (Instr.typeAssert .nilIface 20 88 true).run Tryd.prog w = .ok (.tuple #[.slice none 0 0, .bool false]) w := by
      have hz : (zeroValue 88).run Tryd.prog w = .ok (.slice none 0 0) w := by kernel_rfl
      simp [Instr.typeAssert, run_underlying Tryd.underlying88, go_sem, Result.andThen, hz]
    clear h h4 h5
    unfold AV.enc
    go_enter Tryd.func49, Tryd.ntmps49
    go_wp2
    go_ret
    exact ⟨rfl, rfl⟩
  | bool h =>
    have e1 := no_map 20 w 4 (.bool (x.f1 != 0)) (by decide)
    have e2 := no_list 20 w 4 (.bool (x.f1 != 0)) (by decide)
    clear h h4 h5
    unfold AV.enc
    go_enter Tryd.func49, Tryd.ntmps49
    go_wp2
    go_ret
    exact ⟨rfl, rfl⟩
  | int h =>
    have e1 := no_map 20 w 3 (.int .i64 x.f1) (by decide)
    have e2 := no_list 20 w 3 (.int .i64 x.f1) (by decide)
    clear h h4 h5
    unfold AV.enc
    go_enter Tryd.func49, Tryd.ntmps49
    go_wp2
    go_ret
    exact ⟨rfl, rfl⟩
  | text h =>
    have e1 := no_map 20 w 9 (.string x.f2) (by decide)
    have e2 := no_list 20 w 9 (.string x.f2) (by decide)
    clear h h4 h5
    unfold AV.enc
    go_enter Tryd.func49, Tryd.ntmps49
    go_wp2
    go_ret
    exact ⟨rfl, rfl⟩
  | list Q h => exact absurd h h4
  | map Q h => exact absurd h h5
theorem OM.start {n : Nat} {p : ByteArray} {x : IV} {P : Nat → Prop} {Q : ByteArray → Nat → Prop} {b r : Nat} {w w1 : World} {m : List (ByteArray × AV)} (hr : TRng w1 b r AV.enc m m) (hk : m.map (·.1) = x.f3) (hl : m.length = x.f4.length)
    (he : ∀ (i : Nat) (h1 : i < x.f4.length) (h2 : i < m.length), AnyF w (Q (m[i]'h2).1) (x.f4[i]'h1) (m[i]'h2).2) (hQ : ∀ k n, Q k n → n < w.heap.size) (hd : ∀ k k' n, Q k n → Q k' n → k = k') (hg : w.grownBy w1 none) : OM n p x P Q b r w w1 m m Q := by
  have hl3 : x.f3.length = x.f4.length := by rw [← hk, List.length_map, hl]
  have hb : Below w.heap.size w w1 := ⟨hg.os, hg.tape, hg.output, hg.size, fun k hk => hg.block k hk (by simp)⟩
  refine ⟨hr, ?_, fun q hq => ?_, fun k q hq => ⟨Nat.lt_of_lt_of_le (hQ k q hq) hg.size, .inl hq⟩, hd, Only.of_below hb⟩
  · have e : (x.f3.zip x.f4).filter (keepQ p m) = x.f3.zip x.f4 := List.filter_eq_self.2 (fun q hq => by
      have h1 : q.1 ∈ SM.keys m := by unfold SM.keys; rw [hk]; exact (List.of_mem_zip (a := q.1) (b := q.2) hq).1
      unfold keepQ
      rw [has_iff.2 h1]
      rfl)
    rw [e, List.map_fst_zip (by omega)]
    exact hk
  · obtain ⟨i, hi, rfl⟩ := List.getElem_of_mem hq
    have hi4 : i < x.f4.length := by omega
    have hi3 : i < x.f3.length := by omega
    have e3 : (m[i]'hi).1 = x.f3[i]'hi3 := by
      have : (m.map (·.1))[i]'(by simpa using hi) = x.f3[i]'hi3 := by simp only [hk]
      simpa using this
    refine ⟨x.f4[i]'hi4, ?_, ?_⟩
    · refine List.mem_iff_getElem?.2 ⟨i, ?_⟩
      rw [List.getElem?_zip_eq_some]
      exact ⟨by rw [e3]; exact List.getElem?_eq_getElem hi3, List.getElem?_eq_getElem hi4⟩
    · have h1 : has m (m[i]'hi).1 = true := has_iff.2 (List.mem_map_of_mem (List.getElem_mem hi))
      unfold curI
      rw [if_pos h1]
      exact (he i hi4 hi).below_ hb
set_option maxHeartbeats 8000000 in
set_option maxRecDepth 100000 in
theorem omit_map {n : Nat} (IH : OmitC n) {x : IV} {P : Nat → Prop} {p : ByteArray} {w : World} {b : Nat} {m : List (ByteArray × AV)} (Q : ByteArray → Nat → Prop) (h5 : x.f0 = 5) (hm : TMap w b AV.enc m) (hb : P b) (hbQ : ∀ k, ¬ Q k b) (hQ : ∀ k n, Q k n → P n) (hd : ∀ k k' n, Q k n → Q k' n → k = k') (hk : m.map (·.1) = x.f3) (hl : m.length = x.f4.length)
      (he : ∀ (i : Nat) (h1 : i < x.f4.length) (h2 : i < m.length), AnyF w (Q (m[i]'h2).1) (x.f4[i]'h1) (m[i]'h2).2) (hf : Fine x) (hsz : SizeOf.sizeOf x ≤ n + 1) (hlt : ∀ k, P k → k < w.heap.size) (hp : p.size + 9 * wtI x ≤ 2147483647) :
    Calls Tryd.prog 49 #[(AV.map b).enc, .string p] w fun e w' => e = .returned (AV.map b).enc ∧ AnyF w' (fun k => P k ∨ (w.heap.size ≤ k ∧ k < w'.heap.size)) (omN mustB nextP (n + 1) p x) (.map b) ∧ Only P w w' := by
  have hbl := hm.lt
  have HM := Aside0.mk hm
  have HBL := Lib.hid hbl
  have HS := Lib.hid (fun (w1 : World) (r : Nat) (hr : TRng w1 b r AV.enc m m) (hg : w.grownBy w1 none) => OM.start (n := n) (p := p) (P := P) hr hk hl he (fun k q h => hlt _ (hQ k q h)) hd hg)
  have HD := Lib.hid (fun (wr : World) (r : Nat) (l : List (ByteArray × AV)) (G : ByteArray → Nat → Prop) (h : OM n p x P Q b r w wr l [] G) => h.done h5 hf.nodup hQ hbQ hbl hb)
  have HQW : Hid (∀ k q, Q k q → q < w.heap.size) := Lib.hid (fun k q h => hlt _ (hQ k q h))
  have HQP := Lib.hid hQ
  have HBQ := Lib.hid hbQ
  have HPB := Lib.hid hb
  have HND := Lib.hid hf.nodup
  have HF := Lib.hid (fun (q : ByteArray) (y : IV) (h : (q, y) ∈ x.f3.zip x.f4) => hf.sub (List.of_mem_zip h).2)
  have HSZ := Lib.hid (fun (q : ByteArray) (y : IV) (h : (q, y) ∈ x.f3.zip x.f4) => (by have := size_sub (List.of_mem_zip h).2; omega : SizeOf.sizeOf y ≤ n))
  have HPS : Hid (p.size ≤ 2147483647) := Lib.hid (by omega)
  have HPN := Lib.hid (fun (q : ByteArray) (y : IV) (h : (q, y) ∈ x.f3.zip x.f4) => (by have := wtI_key h; have := nextP_size p q; exact ⟨by omega, by omega⟩ : q.size ≤ 2147483647 ∧ (nextP p q).size + 9 * wtI y ≤ 2147483647))
  have HI := Lib.hid IH
  have HM0 := Lib.hid (fun w : World => loader_mustOmit p w HPS.out)
  clear IH h5 hm hb hbQ hQ hd hk hl he hf hsz hlt hp
  have e1 := as_map 20 w (.map (some b))
  unfold AV.enc
  go_enter Tryd.func49, Tryd.ntmps49
  go_wp2_with (at_range; go_loud (refine wp_range rfl _ rfl Tryd.underlying59 rfl HM.out (w0 := w) (B := w.heap.size) (Below.refl _ _) (Nat.le_refl _) ?_; intro w1 r hr ht _ hg _; have HT := Aside0.mk ht; have HG := Aside0.mk hg; have HR := Lib.hid hr; clear ht hg hr))
  go_frame
  go_loopw [] (fun wr => ∃ (l rm : List (ByteArray × AV)) (G : ByteArray → Nat → Prop), Aside0 (OM n p x P Q b r w wr l rm G)) (fun wr => wr.rangeLeft b r)
  case atStart => exact ⟨m, m, Q, ⟨HS.out w1 r HT.out HG.out⟩⟩
  case round =>
    obtain ⟨l, rm, G, H⟩ := hrel
    go_wp2_with (at_next; refine wp_next rfl _ rfl rfl ?n1 H.out.rng (w0 := wr) (B := 0) (Below.refl _ _) (Nat.zero_le _) ?_ ?_; (case n1 => have := HR.out; omega))
    · intro hrm
      subst hrm
      go_wp2
      go_ret
      exact ⟨rfl, HD.out _ _ _ _ H.out, H.out.only⟩
    · intro qk pv w2 hq ht2 _ hg2 hs2 hen
      obtain ⟨y, hy, ha⟩ := H.out.taken_kid HR.out HQW.out hg2 _ (rng_mem_of H.out.rng hq)
      have hqm : qk ∈ SM.keys rm := List.mem_map_of_mem (f := fun q : ByteArray × AV => q.1) hq
      have ec : curI n p rm qk y = y := by unfold curI; rw [if_pos (has_iff.2 hqm)]
      rw [ec] at ha
      have HA := Aside0.mk ha
      have HY := Lib.hid hy
      have HQM := Lib.hid hqm
      have HG2 := Aside0.mk hg2
      have HS2 := Lib.hid hs2
      have HT2 := Aside0.mk ht2
      have hnd := H.out.rng.nodup
      have HLL := Lib.hid (show (del rm qk).length < rm.length from Nat.lt_of_lt_of_eq (Nat.lt_succ_self _) (length_del (p := (qk, pv)) hnd hq))
      have HNB : Hid (b ≠ r) := Lib.hid (by have := HR.out; omega)
      have HIN := Lib.hid (rng_mem_of H.out.rng hq)
      clear ha hy hqm hg2 hs2 ht2 hnd hq ec
      have HPY := Lib.hid (HPN.out qk y HY.out)
      go_wp2_with fail
      refine (loader_isEmpty HA.out (HF.out _ _ HY.out) w2).mono ?_
      rintro e w3 ⟨rfl, rfl⟩
      cases hE : emptyI y with
      | false =>
        go_wp2_with fail
        refine (tree_NextG p qk w2 HPS.out HPY.out.1).mono ?_
        rintro e w3 ⟨rfl, hb3⟩
        have HG3 := Aside0.mk (grown_below HG2.out hb3)
        have HT3 := Aside0.mk (HT2.out.below hb3)
        have HA3 := Aside0.mk (HA.out.below_ hb3)
        clear hb3
        have HE := Lib.hid (show (emptyI y && mustB p) = false by rw [hE]; rfl)
        clear hE
        have hfoot : ∀ k, G qk k → k < w3.heap.size := fun k hk => Nat.lt_of_lt_of_le (H.out.foot qk k hk).1 HG3.out.size
        have HFT := Lib.hid hfoot
        clear hfoot
        go_wp2_with fail
        refine (OmitC.use HI.out HA3.out (HF.out _ _ HY.out) (HSZ.out _ _ HY.out) HFT.out HPY.out.2).mono ?_
        rintro e w6 ⟨v6, rfl, hv6, ho6⟩
        have HV6 := Aside0.mk hv6
        have HO6 := Aside0.mk ho6
        clear hv6 ho6
        have hgb : ∀ q, G qk q → q ≠ b ∧ q ≠ r := fun q hq => by
          have h1 := HR.out
          have h2 := HBL.out
          rcases (H.out.foot _ _ hq).2 with h3 | h3
          · exact ⟨fun e => HBQ.out _ (e ▸ h3), by have := HQW.out _ _ h3; omega⟩
          · exact ⟨by omega, by omega⟩
        have HT6 := Aside0.mk (HT3.out.move (HO6.out.block b HT3.out.map.lt (fun e => (hgb b e).1 rfl)) (HO6.out.block r HT3.out.lt (fun e => (hgb r e).2 rfl)))
        have hin : qk ∈ SM.keys l := List.mem_map_of_mem (f := fun q : ByteArray × AV => q.1) HIN.out
        have HK := Lib.hid hin
        clear hgb hin
        go_wp2_with (at_mapUpdate; refine wp_putR rfl _ _ _ rfl Tryd.underlying59 Tryd.underlying9 rfl HT6.out HNB.out qk v6 HK.out (fun h => (mem_keys_del.1 h).1 rfl) rfl rfl ?_; intro w7 ht7 hg7 hs7; have HT7 := Aside0.mk ht7; have HG7 := Aside0.mk hg7; have HS7 := Lib.hid hs7; clear ht7 hg7 hs7)
        go_frame
        go_roundw
        case rel => exact ⟨put l qk v6, del rm qk, _, ⟨H.out.put_ HND.out HR.out HQW.out HQP.out HBQ.out HBL.out HPB.out HY.out HQM.out HE.out HG3.out HO6.out HV6.out HG7.out HS7.out HT7.out⟩⟩
        case measure =>
          rw [HT7.out.left_eq, H.out.rng.left_eq]
          exact HLL.out
      | true =>
        go_wp2_with fail
        refine (HM0.out w2).mono ?_
        rintro e w3 ⟨rfl, hb3⟩
        have HG3 := Aside0.mk (grown_below HG2.out hb3)
        have HT3 := Aside0.mk (HT2.out.below hb3)
        have HA3 := Aside0.mk (HA.out.below_ hb3)
        clear hb3
        cases hM : mustB p with
        | true =>
          go_wp2_with (at_delete; refine wp_delR rfl _ _ _ rfl Tryd.underlying59 Tryd.underlying9 rfl HT3.out HNB.out qk (fun h => (mem_keys_del.1 h).1 rfl) rfl ?_; intro w4 ht4 hg4 hs4; have HT4 := Aside0.mk ht4; have HG4 := Aside0.mk hg4; clear ht4 hg4 hs4)
          go_frame
          go_roundw
          case rel => exact ⟨del l qk, del rm qk, G, ⟨H.out.del_ HND.out HR.out HQW.out HBQ.out HBL.out HPB.out HY.out hE hM HG3.out HG4.out HT4.out⟩⟩
          case measure =>
            rw [HT4.out.left_eq, H.out.rng.left_eq]
            exact HLL.out
        | false =>
          go_wp2_with fail
          refine (tree_NextG p qk w3 HPS.out HPY.out.1).mono ?_
          rintro e w5 ⟨rfl, hb5⟩
          have HG5 := Aside0.mk (grown_below HG3.out hb5)
          have HT5 := Aside0.mk (HT3.out.below hb5)
          have HA5 := Aside0.mk (HA3.out.below_ hb5)
          clear hb5
          have HE := Lib.hid (show (emptyI y && mustB p) = false by rw [hM]; simp)
          clear hE hM
          have hfoot : ∀ k, G qk k → k < w5.heap.size := fun k hk => Nat.lt_of_lt_of_le (H.out.foot qk k hk).1 HG5.out.size
          have HFT := Lib.hid hfoot
          clear hfoot
          go_wp2_with fail
          refine (OmitC.use HI.out HA5.out (HF.out _ _ HY.out) (HSZ.out _ _ HY.out) HFT.out HPY.out.2).mono ?_
          rintro e w6 ⟨v6, rfl, hv6, ho6⟩
          have HV6 := Aside0.mk hv6
          have HO6 := Aside0.mk ho6
          clear hv6 ho6
          have hgb : ∀ q, G qk q → q ≠ b ∧ q ≠ r := fun q hq => by
            have h1 := HR.out
            have h2 := HBL.out
            rcases (H.out.foot _ _ hq).2 with h3 | h3
            · exact ⟨fun e => HBQ.out _ (e ▸ h3), by have := HQW.out _ _ h3; omega⟩
            · exact ⟨by omega, by omega⟩
          have HT6 := Aside0.mk (HT5.out.move (HO6.out.block b HT5.out.map.lt (fun e => (hgb b e).1 rfl)) (HO6.out.block r HT5.out.lt (fun e => (hgb r e).2 rfl)))
          have hin : qk ∈ SM.keys l := List.mem_map_of_mem (f := fun q : ByteArray × AV => q.1) HIN.out
          have HK := Lib.hid hin
          clear hgb hin
          go_wp2_with (at_mapUpdate; refine wp_putR rfl _ _ _ rfl Tryd.underlying59 Tryd.underlying9 rfl HT6.out HNB.out qk v6 HK.out (fun h => (mem_keys_del.1 h).1 rfl) rfl rfl ?_; intro w7 ht7 hg7 hs7; have HT7 := Aside0.mk ht7; have HG7 := Aside0.mk hg7; have HS7 := Lib.hid hs7; clear ht7 hg7 hs7)
          go_frame
          go_roundw
          case rel => exact ⟨put l qk v6, del rm qk, _, ⟨H.out.put_ HND.out HR.out HQW.out HQP.out HBQ.out HBL.out HPB.out HY.out HQM.out HE.out HG5.out HO6.out HV6.out HG7.out HS7.out HT7.out⟩⟩
          case measure =>
            rw [HT7.out.left_eq, H.out.rng.left_eq]
            exact HLL.out
end Go.Proofs.YtadcdjiahekkgaaDoor.A
/- The walk of loader.omitEmpty: a list; and all of it. -/
namespace Go.Proofs.YtadcdjiahekkgaaDoor.A
set_option linter.unusedVariables false
set_option linter.unusedSimpArgs false
set_option linter.unusedSectionVars false
open Go.RowKit Go.Proofs.YtadcdjiahekkgaaDoorW.PrintWords Go.Proofs.YtadcdjiahekkgaaDoorW.PrintLast Go.Proofs.YtadcdjiahekkgaaDoorW.PrintMore Go.Proofs.YtadcdjiahekkgaaDoor.PT Go.Proofs.YtadcdjiahekkgaaDoor.L Go.Proofs.YtadcdjiahekkgaaDoor.SM

/-- the parts of a list that are left, of the first i -/
def zsO (n : Nat) (p : ByteArray) (x : IV) (i : Nat) : List IV := ((x.f4.take i).filter (fun e => !(emptyI e && mustB p))).map (omN mustB nextP n (nextP p ⟨#[91, 93]⟩))
theorem zsO_skip {n : Nat} {p : ByteArray} {x : IV} {i : Nat} (h : i < x.f4.length) (he : emptyI (x.f4[i]'h) = true) (hm : mustB p = true) : zsO n p x (i + 1) = zsO n p x i := by
  unfold zsO
  rw [List.take_succ_eq_append_getElem h, List.filter_append]
  simp [he, hm]
theorem zsO_snoc {n : Nat} {p : ByteArray} {x : IV} {i : Nat} (h : i < x.f4.length) (he : (emptyI (x.f4[i]'h) && mustB p) = false) : zsO n p x (i + 1) = zsO n p x i ++ [omN mustB nextP n (nextP p ⟨#[91, 93]⟩) (x.f4[i]'h)] := by
  unfold zsO
  rw [List.take_succ_eq_append_getElem h, List.filter_append, List.map_append]
  have : [x.f4[i]'h].filter (fun e => !(emptyI e && mustB p)) = [x.f4[i]'h] := by rw [List.filter_cons, he]; simp
  rw [this]
  rfl
theorem zsO_len {n : Nat} {p : ByteArray} {x : IV} {i : Nat} : (zsO n p x i).length ≤ i := by
  unfold zsO
  rw [List.length_map]
  exact Nat.le_trans (List.length_filter_le _ _) (by rw [List.length_take]; omega)
structure OL (n : Nat) (p : ByteArray) (x : IV) (P : Nat → Prop) (Q : Nat → Nat → Prop) (A : Option Addr) (vs : List AV) (w wr : World) (i : Nat) (us : List AV) (R : Nat → Nat → Prop) : Prop where
  row : kA.R 20 wr w.heap.size (fun k => k = w.heap.size) (.slice (some ⟨w.heap.size, 0, none⟩) us.length vs.length) us
  gt : w.heap.size < wr.heap.size
  len : us.length = (zsO n p x i).length
  outs : ∀ (j : Nat) (h1 : j < (zsO n p x i).length) (h2 : j < us.length), AnyF wr (R j) ((zsO n p x i)[j]'h1) (us[j]'h2)
  foot : ∀ j k, R j k → j < us.length ∧ k < wr.heap.size ∧ (w.heap.size < k ∨ ∃ j', j' < i ∧ Q j' k)
  apart : ∀ j j' k, R j k → R j' k → j = j'
  left : ∀ (j : Nat) (h1 : j < x.f4.length) (h2 : j < vs.length), i ≤ j → AnyF wr (Q j) (x.f4[j]'h1) (vs[j]'h2)
  src : kA.C wr A vs.length vs
  only : Only P w wr
variable {n i : Nat} {p : ByteArray} {x : IV} {P : Nat → Prop} {Q R : Nat → Nat → Prop} {A : Option Addr} {vs us : List AV} {w wr w5 w6 w7 : World}
theorem OL.skip (h : OL n p x P Q A vs w wr i us R) (hi : i < x.f4.length) (he : emptyI (x.f4[i]'hi) = true) (hm : mustB p = true) (hb : Below wr.heap.size wr w5) : OL n p x P Q A vs w w5 (i + 1) us R := by
  have e := zsO_skip (n := n) hi he hm
  refine ⟨Kd.R_below h.row hb, Nat.lt_of_lt_of_le h.gt hb.size, by rw [e]; exact h.len, ?_, fun j k hk => ?_, h.apart, fun j h1 h2 hj => (h.left j h1 h2 (Nat.le_of_succ_le hj)).below_ hb, Kd.C_below h.src hb, h.only.trans (P' := fun _ => False) (Only.of_below hb |> fun q => ⟨q.os, q.tape, q.output, q.size, fun k hk hn => q.block k hk hn⟩) (fun q hq => hq.elim)⟩
  · simp only [e]
    exact fun j h1 h2 => (h.outs j h1 h2).below_ hb
  · obtain ⟨h1, h2, h3⟩ := h.foot j k hk
    refine ⟨h1, Nat.lt_of_lt_of_le h2 hb.size, ?_⟩
    rcases h3 with h3 | ⟨j', h3, h4⟩
    · exact .inl h3
    · exact .inr ⟨j', by omega, h4⟩
/-- an entry is told: w5 ahead of the call, w6 behind it, w7 behind the append -/
theorem OL.snoc {v6 : AV} (h : OL n p x P Q A vs w wr i us R) (hi : i < x.f4.length) (hl : vs.length = x.f4.length) (he : (emptyI (x.f4[i]'hi) && mustB p) = false) (hQ : ∀ j k, Q j k → P k) (hQw : ∀ j k, Q j k → k < w.heap.size) (hd : ∀ i j k, Q i k → Q j k → i = j) (hA : 0 < vs.length → ∀ ad, A = some ad → ad.block < w.heap.size ∧ ∀ i, ¬ Q i ad.block)
    (hb : Below wr.heap.size wr w5) (hO : Only (Q i) w5 w6) (hv : AnyF w6 (fun k => Q i k ∨ (w5.heap.size ≤ k ∧ k < w6.heap.size)) (omN mustB nextP n (nextP p ⟨#[91, 93]⟩) (x.f4[i]'hi)) v6)
    (hg : w6.grownBy w7 (some w.heap.size)) (hrow : kA.R 20 w7 w.heap.size (fun k => k = w.heap.size) (.slice (some ⟨w.heap.size, 0, none⟩) (us ++ [v6]).length vs.length) (us ++ [v6])) :
    OL n p x P Q A vs w w7 (i + 1) (us ++ [v6]) (fun j k => R j k ∨ (j = us.length ∧ (Q i k ∨ (w5.heap.size ≤ k ∧ k < w6.heap.size)))) := by
  have e := zsO_snoc (n := n) hi he
  have s1 := h.gt
  have s2 := hb.size
  have s3 := hO.size
  have s4 := hg.size
  have hR : ∀ j k, R j k → ¬ Q i k ∧ k ≠ w.heap.size ∧ k < wr.heap.size := fun j k hk => by
    obtain ⟨h1, h2, h3⟩ := h.foot j k hk
    refine ⟨fun hq => ?_, ?_, h2⟩
    · rcases h3 with h3 | ⟨j', h3, h4⟩
      · have := hQw _ _ hq; omega
      · have := hd _ _ _ hq h4; omega
    · rcases h3 with h3 | ⟨j', h3, h4⟩
      · omega
      · have := hQw _ _ h4; omega
  refine ⟨hrow, by omega, by rw [e, List.length_append, List.length_append, h.len]; rfl, ?_, fun j k hk => ?_, fun j j' k h1 h2 => ?_, fun j h1 h2 hj => ?_, ?_, ?_⟩
  · simp only [e]
    intro j h1 h2
    rcases Nat.lt_or_ge j us.length with hj | hj
    · have hj1 : j < (zsO n p x i).length := by rw [← h.len]; exact hj
      rw [List.getElem_append_left hj, List.getElem_append_left hj1]
      exact (((h.outs j hj1 hj).below_ hb).kept (fun k hk hlt => (hg.block k (by omega) (fun e => by injection e with e; exact (hR j k hk).2.1 e)).trans (hO.block k hlt (hR j k hk).1))).imp (fun k hk => .inl hk)
    · have hju : j = us.length := by rw [List.length_append, List.length_singleton] at h2; omega
      subst hju
      have e1 : (us ++ [v6])[us.length]'h2 = v6 := by simp
      have e2 : (zsO n p x i ++ [omN mustB nextP n (nextP p ⟨#[91, 93]⟩) (x.f4[i]'hi)])[us.length]'h1 = omN mustB nextP n (nextP p ⟨#[91, 93]⟩) (x.f4[i]'hi) := by simp [h.len]
      rw [e1, e2]
      refine (hv.kept (fun k hk hlt => hg.block k hlt (fun e => ?_))).imp (fun k hk => .inr ⟨rfl, hk⟩)
      injection e with e
      rcases hk with hk | hk
      · have := hQw _ _ hk; omega
      · omega
  · rw [List.length_append, List.length_singleton]
    rcases hk with hk | ⟨rfl, hk⟩
    · obtain ⟨h1, h2, h3⟩ := h.foot j k hk
      refine ⟨by omega, by omega, ?_⟩
      rcases h3 with h3 | ⟨j', h3, h4⟩
      · exact .inl h3
      · exact .inr ⟨j', by omega, h4⟩
    · rcases hk with hk | hk
      · exact ⟨by omega, by have := hQw _ _ hk; omega, .inr ⟨i, by omega, hk⟩⟩
      · exact ⟨by omega, by omega, .inl (by omega)⟩
  · rcases h1 with h1 | ⟨rfl, h1⟩
    · rcases h2 with h2 | ⟨rfl, h2⟩
      · exact h.apart j j' k h1 h2
      · have := hR _ _ h1
        rcases h2 with h2 | h2
        · exact absurd h2 this.1
        · omega
    · rcases h2 with h2 | ⟨e2, h2⟩
      · have := hR _ _ h2
        rcases h1 with h1 | h1
        · exact absurd h1 this.1
        · omega
      · exact e2.symm
  · refine ((h.left j h1 h2 (by omega)).below_ hb).kept (fun k hk hlt => ?_)
    have hk2 := hQw _ _ hk
    exact (hg.block k (by omega) (fun e => by injection e with e; omega)).trans (hO.block k hlt (fun e => by have := hd _ _ _ e hk; omega))
  · have hc := Kd.C_below h.src hb
    refine kA_move hc (fun ad e hlt => ?_)
    have hpos : 0 < vs.length := by omega
    obtain ⟨a1, a2⟩ := hA hpos ad e
    exact (hg.block _ (by omega) (fun e => by injection e with e; omega)).trans (hO.block _ hlt (a2 i))
  · have h1 : Only P w w5 := h.only.trans (P' := fun _ => False) ⟨hb.os, hb.tape, hb.output, hb.size, fun k hk _ => hb.block k hk⟩ (fun q hq => hq.elim)
    have h2 := h1.trans hO (fun q hq _ => hQ i q hq)
    exact h2.trans (Only.of_grown (P := fun k => k = w.heap.size) hg rfl) (fun q e hlt => by omega)
theorem OL.done (h : OL n p x P Q A vs w wr x.f4.length us R) (h4 : x.f0 = 4) (hQ : ∀ j k, Q j k → P k) (hQw : ∀ j k, Q j k → k < w.heap.size) (hl : vs.length = x.f4.length) : AnyF wr (fun k => P k ∨ (w.heap.size ≤ k ∧ k < wr.heap.size)) (omN mustB nextP (n + 1) p x) (.sl (some ⟨w.heap.size, 0, none⟩) us.length vs.length) := by
  have e : omN mustB nextP (n + 1) p x = ⟨4, x.f1, x.f2, x.f3, zsO n p x x.f4.length⟩ := by rw [omN, if_pos h4]; unfold zsO; rw [List.take_length]
  rw [e]
  obtain ⟨A', c', hA', hle, hC⟩ := Kd.R_reads h.row
  injection hA' with q1 q2 q3
  subst q1
  subst q3
  refine .list R rfl h.len hle hC (fun _ ad e => ?_) (fun j k hk => ?_) h.apart (fun j h1 h2 => h.outs j h1 h2)
  · injection e with e
    subst e
    refine ⟨.inr ⟨Nat.le_refl _, h.gt⟩, fun j hk => ?_⟩
    rcases (h.foot _ _ hk).2.2 with h3 | ⟨j', _, h3⟩
    · exact absurd h3 (Nat.lt_irrefl _)
    · exact absurd (hQw _ _ h3) (Nat.lt_irrefl _)
  · obtain ⟨h1, h2, h3⟩ := h.foot j k hk
    rcases h3 with h3 | ⟨j', _, h3⟩
    · exact .inr ⟨Nat.le_of_lt h3, h2⟩
    · exact .inl (hQ _ _ h3)
end Go.Proofs.YtadcdjiahekkgaaDoor.A
/- The walk of loader.omitEmpty: a list; and all of it. -/
namespace Go.Proofs.YtadcdjiahekkgaaDoor.A
set_option linter.unusedVariables false
set_option linter.unusedSimpArgs false
set_option linter.unusedSectionVars false
open Go.RowKit Go.Proofs.YtadcdjiahekkgaaDoorW.PrintWords Go.Proofs.YtadcdjiahekkgaaDoorW.PrintLast Go.Proofs.YtadcdjiahekkgaaDoorW.PrintMore Go.Proofs.YtadcdjiahekkgaaDoor.PT Go.Proofs.YtadcdjiahekkgaaDoor.L Go.Proofs.YtadcdjiahekkgaaDoor.SM

theorem cellBox {w6 : World} {X : Array Value} {u : Value} {t : TypeId} (hX : X = #[u]) : ∀ (j : Nat) (q : Value), [u][j]? = some q → (w6.alloc (.cells X t)).cell? ((⟨w6.heap.size, 0, none⟩ : Addr).add j) = some q := by
  subst hX
  exact cell_one_new _ _ _
set_option maxHeartbeats 8000000 in
set_option maxRecDepth 100000 in
theorem omit_list {n : Nat} (IH : OmitC n) {x : IV} {P : Nat → Prop} {p : ByteArray} {w : World} {A : Option Addr} {c : Nat} {vs : List AV} (Q : Nat → Nat → Prop) (h4 : x.f0 = 4) (hl : vs.length = x.f4.length) (hr : kA.C w A vs.length vs) (hA : 0 < vs.length → ∀ ad, A = some ad → P ad.block ∧ ∀ i, ¬ Q i ad.block)
      (hQ : ∀ i k, Q i k → P k) (hd : ∀ i j k, Q i k → Q j k → i = j)
      (he : ∀ (i : Nat) (h1 : i < x.f4.length) (h2 : i < vs.length), AnyF w (Q i) (x.f4[i]'h1) (vs[i]'h2)) (hf : Fine x) (hsz : SizeOf.sizeOf x ≤ n + 1) (hlt : ∀ k, P k → k < w.heap.size) (hp : p.size + 9 * wtI x ≤ 2147483647) :
    Calls Tryd.prog 49 #[(AV.sl A vs.length c).enc, .string p] w fun e w' => ∃ v' : AV, e = .returned v'.enc ∧ AnyF w' (fun k => P k ∨ (w.heap.size ≤ k ∧ k < w'.heap.size)) (omN mustB nextP (n + 1) p x) v' ∧ Only P w w' := by
  obtain ⟨i0, hi, hz0, hz1, hz2⟩ := info_parts infoA
  have hlen : vs.length ≤ 1099511627776 := by rw [hl]; exact hf.canon.short
  obtain ⟨N, hN⟩ : ∃ N, N = vs.length := ⟨_, rfl⟩
  have HLEN := Lib.hid hlen
  have HN := Lib.hid hN
  have HQW : Hid (∀ i k, Q i k → k < w.heap.size) := Lib.hid (fun i k h => hlt _ (hQ i k h))
  have HQ := Lib.hid hQ
  have HL := Lib.hid hl
  have HD := Lib.hid hd
  have HA : Hid (0 < vs.length → ∀ ad, A = some ad → ad.block < w.heap.size ∧ ∀ i, ¬ Q i ad.block) := Lib.hid (fun h ad e => ⟨hlt _ (hA h ad e).1, (hA h ad e).2⟩)
  have HDN := Lib.hid (fun (wr : World) (us : List AV) (R : Nat → Nat → Prop) (h : OL n p x P Q A vs w wr x.f4.length us R) => h.done h4 hQ HQW.out hl)
  have HF := Lib.hid (fun (y : IV) (h : y ∈ x.f4) => hf.sub h)
  have HSZ := Lib.hid (fun (y : IV) (h : y ∈ x.f4) => (by have := size_sub h; omega : SizeOf.sizeOf y ≤ n))
  have HPS : Hid (p.size ≤ 2147483647) := Lib.hid (by omega)
  have HPN := Lib.hid (fun (y : IV) (h : y ∈ x.f4) => (by have := wtI_sub h; have h3 := nextP_size p ⟨#[91, 93]⟩; have h2 : (⟨#[91, 93]⟩ : ByteArray).size = 2 := rfl; rw [h2] at h3; omega : (nextP p ⟨#[91, 93]⟩).size + 9 * wtI y ≤ 2147483647))
  have HI := Lib.hid IH
  have HM0 := Lib.hid (fun w : World => loader_mustOmit p w HPS.out)
  have HR := Lib.hid hr
  have HE := Lib.hid he
  have e1 := no_map 20 w 88 (.slice A N c) (by decide)
  have e2 := as_list 20 w (.slice A N c)
  unfold AV.enc
  rw [← hN]
  have hb1 : i0.bytes * N ≤ 281474976710656 := by rw [hz2, hN]; omega
  have hb2 : N ≤ maxLen := by unfold maxLen; rw [hN]; omega
  clear IH h4 hl hr hA hQ hd he hf hsz hlt hp hlen hN
  go_enter Tryd.func49, Tryd.ntmps49
  go_wp2_with (at_make; refine wpList_make_own _ rfl _ _ 88 rfl w.heap.size 20 i0 .nilIface 1 Tryd.underlying88 hi hz0 hz1 .i64 .i64 _ N rfl rfl rfl hb1 hb2 (Nat.le_refl _) ?_; intro w1 ho1 hg1; have HO1 := Aside0.mk ho1; have HG1 := Aside0.mk hg1; clear ho1 hg1)
  clear e1 e2 hb1 hb2
  go_loopw [9, 50] (fun v9 v50 wr => ∃ (i : Nat) (us : List AV) (R : Nat → Nat → Prop), i ≤ N ∧ v50 = .int .i64 i ∧ v9 = .slice (some ⟨w.heap.size, 0, none⟩) us.length N ∧ Aside0 (OL n p x P Q A vs w wr i us R)) (fun _ v50 _ => N - (intOf v50).toNat)
  case atStart =>
    have hbl : Below w.heap.size w w1 := ⟨HG1.out.os, HG1.out.tape, HG1.out.output, HG1.out.size, fun k hk => HG1.out.block k hk (by simp)⟩
    have hgt : w.heap.size < w1.heap.size := (World.ownsRow.lt HO1.out _ rfl).2
    refine ⟨0, [], fun _ _ => False, Nat.zero_le _, rfl, rfl, ⟨⟨?_, hgt, rfl, fun j h1 h2 => absurd h2 (Nat.not_lt_zero _), fun j k h => h.elim, fun j j' k h _ => h.elim, fun j h1 h2 _ => (HE.out j h1 h2).below_ hbl, Kd.C_below HR.out hbl, Only.of_below hbl⟩⟩⟩
    have h := HO1.out
    rw [HN.out] at h
    exact Kd.R_of_own (xs := []) h (fun k hk => by simpa [Value.ownBlock] using hk.symm)
  case round =>
    obtain ⟨i, us, R, hi', rfl, rfl, H⟩ := hrel
    by_cases hlt : i < N
    · have i0' : (0 : Int) ≤ (i : Int) := Int.natCast_nonneg _
      have i1 : (i : Int) < (N : Int) := Int.ofNat_lt.2 hlt
      have hiv : i < vs.length := by rw [← HN.out]; exact hlt
      have hiy : i < x.f4.length := by rw [← HL.out]; exact hiv
      obtain ⟨adk, eA, hk0⟩ := at_A H.out.src i hiv
      obtain ⟨v, hv⟩ : ∃ v, v = vs.getD i .nil := ⟨_, rfl⟩
      obtain ⟨y, hy⟩ : ∃ y, y = x.f4[i]'hiy := ⟨_, rfl⟩
      rw [← hv] at hk0
      have hv2 : v = vs[i]'hiv := by rw [hv]; simp [List.getD_eq_getElem?_getD, List.getElem?_eq_getElem hiv]
      have hmem : y ∈ x.f4 := by rw [hy]; exact List.getElem_mem hiy
      have HMEM := Lib.hid hmem
      have HV : Aside0 (AnyF wr (Q i) y v) := ⟨by rw [hy, hv2]; exact H.out.left i hiy hiv (Nat.le_refl _)⟩
      have HIY := Lib.hid hiy
      have HYI : Hid (∀ h : i < x.f4.length, x.f4[i]'h = y) := Lib.hid (fun _ => hy.symm)
      have wk := wrF hlt (by rw [HN.out]; exact HLEN.out)
      have HEA := Lib.hid eA
      have HUS : Hid (us.length ≤ i) := Lib.hid (by rw [H.out.len]; exact zsO_len)
      clear hv hv2 hy hmem hiy hiv eA
      have HADK := HEA
      subst A
      go_wp2_with fail
      refine (loader_isEmpty HV.out (HF.out _ HMEM.out) wr).mono ?_
      rintro e w3 ⟨rfl, rfl⟩
      cases hE : emptyI y with
      | false =>
        have HE2 := Lib.hid (show (emptyI y && mustB p) = false by rw [hE]; rfl)
        clear hE
        go_wp2_with fail
        refine (tree_NextG p ⟨#[91, 93]⟩ wr HPS.out (by decide)).mono ?_
        rintro e w5 ⟨rfl, hb5⟩
        have HO5 := Aside0.mk (hb5)
        have HV5 := Aside0.mk (HV.out.below_ HO5.out)
        have hfw : ∀ k, Q i k → k < w5.heap.size := fun k hk => Nat.lt_of_lt_of_le (HQW.out _ _ hk) (Nat.le_trans H.out.only.size HO5.out.size)
        have HFW := Lib.hid hfw
        clear hfw
        go_wp2_with fail
        refine (OmitC.use HI.out HV5.out (HF.out _ HMEM.out) (HSZ.out _ HMEM.out) HFW.out (HPN.out _ HMEM.out)).mono ?_
        rintro e w6 ⟨v6, rfl, hv6, ho6⟩
        have HV6 := Aside0.mk hv6
        have HO6 := Aside0.mk ho6
        have hvc : v6.enc.cells = #[v6.enc] := by cases v6 <;> rfl
        unfold Value.cells at hvc
        clear hv6 ho6
        have hne : ¬ Q i w.heap.size := fun h => absurd (HQW.out _ _ h) (Nat.lt_irrefl _)
        have hgt : w.heap.size < wr.heap.size := H.out.gt
        have h56 : w5.heap.size ≤ w6.heap.size := HO6.out.size
        have hr5 : wr.heap.size ≤ w5.heap.size := HO5.out.size
        have hrow6 := Kd.R_step H.out.row (w1 := w6) (fun k hk hlt => by subst hk; exact (HO6.out.block _ (Nat.lt_of_lt_of_le hgt hr5) hne).trans (HO5.out.block _ hgt))
        have hown := Kd.own_of_R hrow6
        rw [← HN.out] at hown
        have HOWN := Aside0.mk hown
        clear hown
        have HB1 : Hid (us.length + 1 ≤ N) := Lib.hid (by have := HUS.out; omega)
        have HHG := Lib.hid hgt
        have H56 := Lib.hid h56
        have HR5 := Lib.hid hr5
        clear hne hgt h56 hr5 hrow6
        go_wp2_with (at_builtin; go_loud (refine wpList_append_fits _ rfl _ _ 88 rfl w.heap.size 20 i0 1 Tryd.underlying88 hi hz1 w.heap.size us.length N (encs AV.enc us) rfl (HOWN.out.alloc _) ⟨w6.heap.size, 0, none⟩ 1 1 [v6.enc] rfl rfl ?c1 ?c2 HB1.out ?_; (case c1 => exact cellBox (by cases v6 <;> rfl)); (case c2 => intro q hq; rw [List.mem_singleton.1 hq]; exact AV.enc_one v6); intro w7 ho7 hg7; have HO7 := Aside0.mk ho7; have HG7 := Aside0.mk hg7; clear ho7 hg7))
        go_roundw
        case rel =>
          have e1 : (us ++ [v6]).length = us.length + 1 := by simp
          have hg67 : w6.grownBy w7 (some w.heap.size) := by
            have h := HG7.out
            exact ⟨h.os, h.tape, h.output, Nat.le_trans (by simp) h.size, fun k hk hn => (h.block k (Nat.lt_of_lt_of_le hk (by simp)) hn).trans (((Below.refl w6.heap.size w6).alloc (Nat.le_refl _) _).block k hk)⟩
          refine ⟨i + 1, us ++ [v6], _, hlt, by go_num, by rw [e1], ⟨H.out.snoc HIY.out HL.out (by rw [HYI.out]; exact HE2.out) HQ.out HQW.out HD.out HA.out HO5.out HO6.out (by rw [HYI.out]; exact HV6.out) hg67 ?_⟩⟩
          have h := HO7.out
          rw [e1, ← HN.out]
          have e2 : encs AV.enc us ++ [v6.enc] = encs AV.enc (us ++ [v6]) := by simp [encs]
          rw [e2] at h
          exact Kd.R_of_own (xs := us ++ [v6]) (by rw [e1]; exact h) (fun k hk => by simpa [Value.ownBlock] using hk.symm)
        case measure => first | exact msF hlt | (rw [wk]; exact msF hlt)
      | true =>
        go_wp2_with fail
        refine (HM0.out wr).mono ?_
        rintro e w3 ⟨rfl, hb3⟩
        have HB3 := Aside0.mk hb3
        clear hb3
        cases hM : mustB p with
        | true =>
          go_wp2
          go_roundw
          case rel => exact ⟨i + 1, us, R, hlt, by go_num, rfl, ⟨H.out.skip HIY.out (by rw [HYI.out]; exact hE) hM HB3.out⟩⟩
          case measure => first | exact msF hlt | (rw [wk]; exact msF hlt)
        | false =>
          have HE2 := Lib.hid (show (emptyI y && mustB p) = false by rw [hM]; simp)
          clear hE hM
          go_wp2_with fail
          refine (tree_NextG p ⟨#[91, 93]⟩ w3 HPS.out (by decide)).mono ?_
          rintro e w5 ⟨rfl, hb5⟩
          have HO5 := Aside0.mk (below_then HB3.out HB3.out.size hb5)
          have HV5 := Aside0.mk (HV.out.below_ HO5.out)
          have hfw : ∀ k, Q i k → k < w5.heap.size := fun k hk => Nat.lt_of_lt_of_le (HQW.out _ _ hk) (Nat.le_trans H.out.only.size HO5.out.size)
          have HFW := Lib.hid hfw
          clear hfw
          go_wp2_with fail
          refine (OmitC.use HI.out HV5.out (HF.out _ HMEM.out) (HSZ.out _ HMEM.out) HFW.out (HPN.out _ HMEM.out)).mono ?_
          rintro e w6 ⟨v6, rfl, hv6, ho6⟩
          have HV6 := Aside0.mk hv6
          have HO6 := Aside0.mk ho6
          have hvc : v6.enc.cells = #[v6.enc] := by cases v6 <;> rfl
          unfold Value.cells at hvc
          clear hv6 ho6
          have hne : ¬ Q i w.heap.size := fun h => absurd (HQW.out _ _ h) (Nat.lt_irrefl _)
          have hgt : w.heap.size < wr.heap.size := H.out.gt
          have h56 : w5.heap.size ≤ w6.heap.size := HO6.out.size
          have hr5 : wr.heap.size ≤ w5.heap.size := HO5.out.size
          have hrow6 := Kd.R_step H.out.row (w1 := w6) (fun k hk hlt => by subst hk; exact (HO6.out.block _ (Nat.lt_of_lt_of_le hgt hr5) hne).trans (HO5.out.block _ hgt))
          have hown := Kd.own_of_R hrow6
          rw [← HN.out] at hown
          have HOWN := Aside0.mk hown
          clear hown
          have HB1 : Hid (us.length + 1 ≤ N) := Lib.hid (by have := HUS.out; omega)
          have HHG := Lib.hid hgt
          have H56 := Lib.hid h56
          have HR5 := Lib.hid hr5
          clear hne hgt h56 hr5 hrow6
          go_wp2_with (at_builtin; refine wpList_append_fits _ rfl _ _ 88 rfl w.heap.size 20 i0 1 Tryd.underlying88 hi hz1 w.heap.size us.length N (encs AV.enc us) rfl (HOWN.out.alloc _) ⟨w6.heap.size, 0, none⟩ 1 1 [v6.enc] rfl rfl ?c1 ?c2 HB1.out ?_; (case c1 => exact cellBox (by cases v6 <;> rfl)); (case c2 => intro q hq; rw [List.mem_singleton.1 hq]; exact AV.enc_one v6); intro w7 ho7 hg7; have HO7 := Aside0.mk ho7; have HG7 := Aside0.mk hg7; clear ho7 hg7)
          go_roundw
          case rel =>
            have e1 : (us ++ [v6]).length = us.length + 1 := by simp
            have hg67 : w6.grownBy w7 (some w.heap.size) := by
              have h := HG7.out
              exact ⟨h.os, h.tape, h.output, Nat.le_trans (by simp) h.size, fun k hk hn => (h.block k (Nat.lt_of_lt_of_le hk (by simp)) hn).trans (((Below.refl w6.heap.size w6).alloc (Nat.le_refl _) _).block k hk)⟩
            refine ⟨i + 1, us ++ [v6], _, hlt, by go_num, by rw [e1], ⟨H.out.snoc HIY.out HL.out (by rw [HYI.out]; exact HE2.out) HQ.out HQW.out HD.out HA.out HO5.out HO6.out (by rw [HYI.out]; exact HV6.out) hg67 ?_⟩⟩
            have h := HO7.out
            rw [e1, ← HN.out]
            have e2 : encs AV.enc us ++ [v6.enc] = encs AV.enc (us ++ [v6]) := by simp [encs]
            rw [e2] at h
            exact Kd.R_of_own (xs := us ++ [v6]) (by rw [e1]; exact h) (fun k hk => by simpa [Value.ownBlock] using hk.symm)
          case measure => first | exact msF hlt | (rw [wk]; exact msF hlt)
    · obtain rfl : i = N := by omega
      go_wp2
      go_ret
      have hxl : i = x.f4.length := by rw [HN.out, HL.out]
      have hm := H.out
      rw [hxl] at hm
      refine ⟨.sl (some ⟨w.heap.size, 0, none⟩) us.length vs.length, by rw [← HN.out]; rfl, HDN.out wr us R hm, H.out.only⟩

theorem omit_all : ∀ n, OmitC n
  | 0 => fun x v P p w h hf hs => by cases x; simp at hs
  | n + 1 => fun x v P p w h hf hs hlt hp => by
    by_cases h4 : x.f0 = 4
    · cases h with
      | nil q => omega
      | bool q => omega
      | int q => omega
      | text q => omega
      | list Q _ hl hc hr hA hQ hd he => exact omit_list (omit_all n) Q h4 hl hr hA hQ hd he hf hs hlt hp
      | map Q q => omega
    · by_cases h5 : x.f0 = 5
      · cases h with
        | nil q => omega
        | bool q => omega
        | int q => omega
        | text q => omega
        | list Q q => omega
        | map Q _ hm hb hbQ hQ hd hk hl he =>
          refine (omit_map (omit_all n) Q h5 hm hb hbQ hQ hd hk hl he hf hs hlt hp).mono ?_
          rintro e w' ⟨rfl, h1, h2⟩
          exact ⟨_, rfl, h1, h2⟩
      · refine (omit_flat h h4 h5).mono ?_
        rintro e w' ⟨rfl, rfl⟩
        refine ⟨v, rfl, ?_, Only.refl _ _⟩
        rw [omN_flat h4 h5]
        exact h.imp (fun k hk => .inl hk)
end Go.Proofs.YtadcdjiahekkgaaDoor.A
/- The walks of loader.OmitEmpty, impl.OmitEmpty. -/
namespace Go.Proofs.YtadcdjiahekkgaaDoor.A
set_option linter.unusedVariables false
set_option linter.unusedSimpArgs false
set_option linter.unusedSectionVars false
open Go.RowKit Go.Proofs.YtadcdjiahekkgaaDoorW.PrintWords Go.Proofs.YtadcdjiahekkgaaDoorW.PrintLast Go.Proofs.YtadcdjiahekkgaaDoorW.PrintMore Go.Proofs.YtadcdjiahekkgaaDoor.PT Go.Proofs.YtadcdjiahekkgaaDoor.L Go.Proofs.YtadcdjiahekkgaaDoor.SM

theorem AnyF.isMap {w : World} {P : Nat → Prop} {z : IV} {v : AV} (h : AnyF w P z v) (h5 : z.f0 = 5) : ∃ b, v = .map b := by
  cases h with
  | nil q => omega
  | bool q => omega
  | int q => omega
  | text q => omega
  | list Q q => omega
  | map Q q => exact ⟨_, rfl⟩
theorem to_map {x : IV} (hc : Canon x) (h5 : x.f0 = 5) {v : Value} {w : World} (hv : MadeI x w v) : Calls Tryd.prog 30 #[v] w fun e w' => ∃ b, e = .returned (.map (some b)) ∧ AnyF w' (fun k => w.heap.size ≤ k ∧ k < w'.heap.size) x (.map b) ∧ Below w.heap.size w w' := by
  obtain ⟨A3, c3, A4, c4, rfl, h3, g3, h4, g4⟩ := hv
  refine (toMapF x hc h5 A3 c3 A4 c4 w g3 g4 (fun y hy W _ => toAnyF _ y (Nat.le_refl _) (hc.sub hy) W)).mono ?_
  rintro e w' ⟨rfl, ⟨m, Q, hm, hmk, hqb, hqd, hme⟩, hb⟩
  have hlt := hm.lt
  have hlen := (hc.keys h5).2
  refine ⟨_, rfl, .map Q h5 hm ⟨by omega, hlt⟩ (fun k hk => by have := (hqb k _ hk).1; omega) (fun k q hk => by have := hqb k q hk; exact ⟨by omega, this.2.1⟩) hqd (by rw [hmk, List.take_length]) ?_ hme, hb⟩
  have := congrArg List.length hmk
  rw [List.length_map, List.take_length] at this
  omega
theorem from_map_ {b : Nat} {y : IV} {w : World} (h : FromIs w (.map b) y) : Calls Tryd.prog 28 #[.map (some b)] w (Told y w) := by
  cases h with
  | map hm hb hk hl he => exact impl_fromMap sortC b _ _ _ w hm hb hk hl (fun i h1 h2 v hv W hW => impl_fromAny sortC (he i h1 h2 v hv) W hW)
theorem strings_Join0 (w : World) : Calls Tryd.prog 66 #[.slice none 0 0, .string ⟨#[46]⟩] w fun e w' => e = .returned (.string ⟨#[]⟩) ∧ w = w' := by
  go_enter Tryd.func66, Tryd.ntmps66
  go_wp2
  go_ret
  exact ⟨rfl, rfl⟩
theorem tree_NewPath0 (w : World) : Calls Tryd.prog 50 #[.slice none 0 0] w fun e w' => e = .returned (.string ⟨#[]⟩) ∧ w = w' := by
  go_enter Tryd.func50, Tryd.ntmps50
  go_wp2_with fail
  refine (strings_Join0 w).mono ?_
  rintro e w1 ⟨rfl, rfl⟩
  go_wp2
  go_ret
  exact ⟨rfl, rfl⟩
noncomputable abbrev omT (x : IV) : IV := omN mustB nextP (SizeOf.sizeOf x) be x
set_option maxRecDepth 100000 in
theorem loader_OmitEmpty {x : IV} {P : Nat → Prop} {b : Nat} {w : World} (h : AnyF w P x (.map b)) (h5 : x.f0 = 5) (hf : Fine x) (hlt : ∀ k, P k → k < w.heap.size) (hp : 9 * wtI x ≤ 2147483647) :
    Calls Tryd.prog 29 #[.map (some b)] w fun e w' => ∃ b', e = .returned (.map (some b')) ∧ AnyF w' (fun k => P k ∨ (w.heap.size ≤ k ∧ k < w'.heap.size)) (omT x) (.map b') ∧ Only P w w' := by
  have HC := Lib.hid (OmitC.use (omit_all _) h hf (Nat.le_refl _) hlt (p := be) (by rw [be_size]; omega))
  have HK : Hid ((omT x).f0 = 5) := Lib.hid ((omN_kind _ _ _).1.trans h5)
  clear h h5 hf hlt hp
  unfold AV.enc at HC
  go_enter Tryd.func29, Tryd.ntmps29
  go_wp2_with fail
  refine (tree_NewPath0 w).mono ?_
  rintro e w1 ⟨rfl, rfl⟩
  go_wp2_with fail
  refine HC.out.mono ?_
  rintro e w2 ⟨v, rfl, hv, ho⟩
  obtain ⟨b', rfl⟩ := hv.isMap HK.out
  have HV := Aside0.mk hv
  have HO := Aside0.mk ho
  clear hv ho
  have e1 : (Instr.typeAssert (.iface 59 (.map (some b'))) 20 59 false).run Tryd.prog w2 = .ok (.map (some b')) w2 := by simp [Instr.typeAssert, run_underlying Tryd.underlying59, go_sem, Result.andThen]
  dsimp only
  go_wp2
  go_ret
  exact ⟨b', rfl, HV.out, HO.out⟩
set_option maxHeartbeats 4000000 in
set_option maxRecDepth 100000 in
theorem impl_OmitEmpty {x : IV} (hf : Fine x) (h5 : x.f0 = 5) (hz : Fine (omT x)) (hp : 9 * wtI x ≤ 2147483647) {v : Value} {w : World} (hv : MadeI x w v) :
    Calls Tryd.prog 10 #[v] w fun e w' => (∃ u, e = .returned u ∧ MadeI (omT x) w' u) ∧ Below w.heap.size w w' := by
  obtain ⟨A3, c3, A4, c4, rfl, h3, g3, h4, g4⟩ := hv
  obtain ⟨W0, hW0⟩ : ∃ W0 : World, W0 = (w.alloc (Obj.cells #[.int .i64 x.f0, .int .i64 x.f1, .string x.f2, .slice A3 x.f3.length c3, .slice A4 x.f4.length c4] 32)).alloc (Obj.cells #[.int .i64 0, .int .i64 0, .string ⟨#[]⟩, .slice none 0 0, .slice none 0 0] 32) := ⟨_, rfl⟩
  have hb0 : Below w.heap.size w W0 := by rw [hW0]; exact ((Below.refl _ _).alloc (Nat.le_refl _) _).alloc (by simp) _
  have hbx : W0.heap[w.heap.size]? = some (.cells #[.int .i64 x.f0, .int .i64 x.f1, .string x.f2, .slice A3 x.f3.length c3, .slice A4 x.f4.length c4] 32 (0, 0)) := by rw [hW0]; exact heap_oldI (new_atI rfl)
  have HRE : Aside0 (W0.heap[w.heap.size + 1]? = some (.cells zV 32 (0, 0))) := ⟨by rw [hW0]; exact new_atI (by simp)⟩
  have HT := Lib.hid (to_map hf.canon h5 (w := W0) (v := cellsI x A3 c3 A4 c4) ⟨A3, c3, A4, c4, rfl, h3, Kd.C_below g3 hb0, h4, Kd.C_below g4 hb0⟩)
  have HB0 := Aside0.mk hb0
  have HS0 : Hid (W0.heap.size = w.heap.size + 2) := Lib.hid (by rw [hW0]; simp)
  have HW0 := Lib.hid hW0
  have HL := Lib.hid (fun (W : World) (P : Nat → Prop) (b : Nat) (h : AnyF W P x (.map b)) (hlt : ∀ k, P k → k < W.heap.size) => loader_OmitEmpty h h5 hf hlt hp)
  have HZ := Lib.hid hz
  have m0 : W0.cell? ⟨w.heap.size, 0, none⟩ = some (.int .i64 x.f0) := (blk_cell hbx 0).trans rfl
  have m1 : W0.cell? ⟨w.heap.size, 1, none⟩ = some (.int .i64 x.f1) := (blk_cell hbx 1).trans rfl
  have m2 : W0.cell? ⟨w.heap.size, 2, none⟩ = some (.string x.f2) := (blk_cell hbx 2).trans rfl
  have m3 : W0.cell? ⟨w.heap.size, 3, none⟩ = some (.slice A3 x.f3.length c3) := (blk_cell hbx 3).trans rfl
  have m4 : W0.cell? ⟨w.heap.size, 4, none⟩ = some (.slice A4 x.f4.length c4) := (blk_cell hbx 4).trans rfl
  clear hb0 hW0 hbx h3 g3 h4 g4 hf h5 hz hp
  go_enter Tryd.func10, Tryd.ntmps10
  go_upto_region 1 with fail
  rw [← HW0.out]
  go_wp2_with fail
  refine HT.out.mono ?_
  clear m0 m1 m2 m3 m4
  rintro e w1 ⟨b, rfl, ha, hb1⟩
  have HA := Aside0.mk ha
  have H1 := Aside0.mk hb1
  clear ha hb1
  go_wp2_with fail
  refine (HL.out w1 _ b HA.out (fun k hk => hk.2)).mono ?_
  rintro e w2 ⟨b', rfl, ha2, ho⟩
  have H2 : Aside0 (Below W0.heap.size W0 w2) := ⟨H1.out.trans (ho.toBelow (fun k hk => hk.1) H1.out.size)⟩
  have HF2 := Aside0.mk (ha2.toIs.told HZ.out)
  clear ha2 ho
  go_wp2_with fail
  refine (from_map_ HF2.out).mono ?_
  rintro e w4 ⟨B3, d3, B4, d4, rfl, k3, k4, hb4⟩
  obtain ⟨W5, hW5⟩ : ∃ W5 : World, W5 = w4.alloc (Obj.cells #[.int .i64 (omT x).f0, .int .i64 (omT x).f1, .string (omT x).f2, .slice B3 (omT x).f3.length d3, .slice B4 (omT x).f4.length d4] 32) := ⟨_, rfl⟩
  have hb5 : Below w2.heap.size w2 W5 := by rw [hW5]; exact hb4.alloc hb4.size _
  have hre : W5.heap[w.heap.size + 1]? = some (.cells zV 32 (0, 0)) := blk_below (blk_below HRE.out H2.out) hb5
  have h5 : W5.heap[w4.heap.size]? = some (.cells #[.int .i64 (omT x).f0, .int .i64 (omT x).f1, .string (omT x).f2, .slice B3 (omT x).f3.length d3, .slice B4 (omT x).f4.length d4] 32 (0, 0)) := by rw [hW5]; exact new_atI rfl
  have H5 := Aside0.mk (below_then H2.out H2.out.size hb5)
  have K3 : Aside0 (Kd.R Kd.string 9 W5 w2.heap.size (fun k => k < w4.heap.size) (.slice B3 (omT x).f3.length d3) (omT x).f3) := ⟨by rw [hW5]; exact Kd.R_alloc (Kd.R_mono (Kd.R_bound k3) (fun k hk => hk.2.2.1)) _⟩
  have K4 : Aside0 (Kd.R kI 32 W5 w2.heap.size (fun k => k < w4.heap.size) (.slice B4 (omT x).f4.length d4) (omT x).f4) := ⟨by rw [hW5]; exact Kd.R_alloc (Kd.R_mono (Kd.R_bound k4) (fun k hk => hk.2.2.1)) _⟩
  obtain ⟨g, hg⟩ : ∃ g, g = w4.heap.size := ⟨_, rfl⟩
  have hs2 : w.heap.size + 2 ≤ w2.heap.size := by have h1 := H2.out.size; have h2 := HS0.out; omega
  have hs4 : w2.heap.size ≤ g := by rw [hg]; exact hb4.size
  rw [← hg] at h5 K3 K4
  have HG := Lib.hid hg
  have HS2 := Lib.hid hs2
  have HS4 := Lib.hid hs4
  have HW5 := Lib.hid hW5
  have HNE : Hid (w.heap.size + 1 ≠ g) := Lib.hid (by omega)
  clear k3 k4 hb4 hb5 hW5 hg hs2 hs4
  generalize hzz : omT x = z at *
  have HZZ := Lib.hid hzz
  clear hzz
  have n0 : W5.cell? ⟨w.heap.size + 1, 0, none⟩ = some (.int .i64 0) := (blk_cell hre 0).trans rfl
  have n1 : W5.cell? ⟨w.heap.size + 1, 1, none⟩ = some (.int .i64 0) := (blk_cell hre 1).trans rfl
  have n2 : W5.cell? ⟨w.heap.size + 1, 2, none⟩ = some (.string ⟨#[]⟩) := (blk_cell hre 2).trans rfl
  have n3 : W5.cell? ⟨w.heap.size + 1, 3, none⟩ = some (.slice none 0 0) := (blk_cell hre 3).trans rfl
  have n4 : W5.cell? ⟨w.heap.size + 1, 4, none⟩ = some (.slice none 0 0) := (blk_cell hre 4).trans rfl
  have f0 := blk_frozen hre 0
  have f1 := blk_frozen hre 1
  have f2 := blk_frozen hre 2
  have f3 := blk_frozen hre 3
  have f4 := blk_frozen hre 4
  have l0 : W5.cell? ⟨g, 0, none⟩ = some (.int .i64 z.f0) := (blk_cell h5 0).trans rfl
  have l1 : W5.cell? ⟨g, 1, none⟩ = some (.int .i64 z.f1) := (blk_cell h5 1).trans rfl
  have l2 : W5.cell? ⟨g, 2, none⟩ = some (.string z.f2) := (blk_cell h5 2).trans rfl
  have l3 : W5.cell? ⟨g, 3, none⟩ = some (.slice B3 z.f3.length d3) := (blk_cell h5 3).trans rfl
  have l4 : W5.cell? ⟨g, 4, none⟩ = some (.slice B4 z.f4.length d4) := (blk_cell h5 4).trans rfl
  clear hre h5
  unfold cellsI
  go_upto_region 2 with fail
  rw [← HW5.out, ← HG.out]
  go_wp2
  refine bodyPost_ret (v := cellsI z B3 d3 B4 d4) (by unfold cellsI; simp [results, Tryd.results10, go_sem, *]) rfl ?_
  have hne : ∀ k, w2.heap.size ≤ k → k ≠ w.heap.size + 1 := fun k hk e => by have h1 := HS2.out; omega
  have q3 := Kd.R_reads' (R_far5 (Kd.R_bound K3.out) (w.heap.size + 1) (fun k hk => hne k hk.2.1) (.int .i64 z.f0) (.int .i64 z.f1) (.string z.f2) (.slice B3 z.f3.length d3) (.slice B4 z.f4.length d4))
  have q4 := Kd.R_reads' (R_far5 (Kd.R_bound K4.out) (w.heap.size + 1) (fun k hk => hne k hk.2.1) (.int .i64 z.f0) (.int .i64 z.f1) (.string z.f2) (.slice B3 z.f3.length d3) (.slice B4 z.f4.length d4))
  have hzz := HZZ.out
  subst hzz
  exact ⟨⟨_, rfl, B3, d3, B4, d4, rfl, q3.2.1, q3.2.2, q4.2.1, q4.2.2⟩, below5 (HB0.out.trans (H5.out.mono HB0.out.size)) _ (Nat.le_succ _) _ _ _ _ _⟩
end Go.Proofs.YtadcdjiahekkgaaDoor.A
