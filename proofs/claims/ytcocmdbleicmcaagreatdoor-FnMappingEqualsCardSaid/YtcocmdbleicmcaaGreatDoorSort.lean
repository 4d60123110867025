/- sort.Slice on a row of one's own, elements of k cells: what the row holds behind it. No program of ours. -/
import Derived.Shelf.SlSortFuncK.WholeK
import Derived.Shelf.GgSortFunc.Tiny
import Derived.Sort.OwnSorted
import Derived.Test.YtcocmdbleicmcaaGreatDoorWWords
namespace Go.Proofs.YtcocmdbleicmcaaGreatDoor.Srt
set_option linter.unusedVariables false
set_option linter.unusedSimpArgs false
set_option linter.unusedSectionVars false
open Go.Shelf Go.RowKit Go.Lib Go.Sort Go.Proofs.YtcocmdbleicmcaaGreatDoorW.PrintWords

section
variable {α : Type} [Inhabited α] {enc : α → List Value} {k : Nat}
theorem get_flat (hk : ∀ x, (enc x).length = k) (h0 : 0 < k) : ∀ (l : List α) (t : Nat), t < l.length * k → (l.flatMap enc)[t]? = some ((enc l.toArray[t / k]!)[t % k]!)
  | [], t, h => by simp at h
  | x :: l, t, h => by
    rw [List.flatMap_cons]
    rcases Nat.lt_or_ge t k with hlt | hge
    · rw [List.getElem?_append_left (by rw [hk]; exact hlt), Nat.div_eq_of_lt hlt, Nat.mod_eq_of_lt hlt]
      have : t < (enc x).length := by rw [hk]; exact hlt
      rw [List.getElem?_eq_getElem this]
      simp [this]
    · rw [List.getElem?_append_right (by rw [hk]; exact hge), hk]
      have h1 : t - k < l.length * k := by rw [List.length_cons, Nat.add_mul] at h; omega
      rw [get_flat hk h0 l (t - k) h1]
      have e1 : t / k = (t - k) / k + 1 := by
        have : t = (t - k) + k := by omega
        conv => lhs; rw [this]
        rw [Nat.add_div_right _ h0]
      have e2 : t % k = (t - k) % k := by
        have : t = (t - k) + k := by omega
        conv => lhs; rw [this]
        rw [Nat.add_mod_right]
      rw [e1, e2]
      simp
theorem flatK_toList (hk : ∀ x, (enc x).length = k) (h0 : 0 < k) (l : List α) : (flatK enc k l.toArray).toList = l.flatMap enc := by
  apply List.ext_getElem?
  intro t
  rcases Nat.lt_or_ge t (l.length * k) with h | h
  · rw [get_flat hk h0 l t h, Array.getElem?_toList]
    simp [flatK, h]
  · have hl : (l.flatMap enc).length = l.length * k := by
      clear h
      induction l with
      | nil => simp
      | cons x l ih => rw [List.flatMap_cons, List.length_append, ih, hk, List.length_cons, Nat.add_mul]; omega
    rw [List.getElem?_eq_none (by simpa using h), List.getElem?_eq_none (by omega)]
theorem holds_own {W : World} {base e g n cap : Nat} {l : List α} (hk : ∀ x, (enc x).length = k) (h0 : 0 < k) (hl : l.length = n) (h : W.ownsRow base e k (.slice (some ⟨g, 0, none⟩) n cap) n (l.flatMap enc)) : HoldsK enc k W g 0 l.toArray := by
  intro j hj
  have hj' : j < l.length * k := by simpa using hj
  rcases h.2 with ⟨h1, _⟩ | ⟨g', cap', cur, h1, _, hb, hn, _, hz, ht⟩
  · cases h1
  · injection h1 with h1 h2
    injection h1 with h1
    injection h1 with h1
    subst h1
    refine ⟨?_, by simp [World.frozen?, hb]⟩
    have h3 : (cur.toList.take (n * k))[j]? = (l.flatMap enc)[j]? := by rw [ht]
    rw [List.getElem?_take_of_lt (by rw [← hl]; exact hj'), get_flat hk h0 l j hj', Array.getElem?_toList] at h3
    rw [get_flatK enc k l.toArray j (by simpa using hj')]
    simp only [World.cell?, hb, Nat.zero_add]
    simp only [Option.isSome_none, Bool.false_eq_true, if_false]
    exact h3
theorem grown_sorted {W : World} {g q : Nat} {os : Array Obj} (d : Array α) : W.grownBy (grow (putRowK enc k (Sort.ahead W q) g 0 d) os) (some g) := by
  refine ⟨rfl, rfl, rfl, by simp [putRowK], fun j hj hne => ?_⟩
  rw [heap_grow_old _ _ (by simpa [putRowK] using hj)]
  have : g ≠ j := fun e => hne (by rw [e])
  simp [putRowK, putRow, mapBlock, Sort.ahead, Array.getElem?_modify, this]
theorem own_sorted {W : World} {base e g n cap q : Nat} {os : Array Obj} {l l' : List α} (hk : ∀ x, (enc x).length = k) (h0 : 0 < k) (hl : l.length = n) (hl' : l'.length = n) (h : W.ownsRow base e k (.slice (some ⟨g, 0, none⟩) n cap) n (l.flatMap enc)) :
    (grow (putRowK enc k (Sort.ahead W q) g 0 l'.toArray) os).ownsRow base e k (.slice (some ⟨g, 0, none⟩) n cap) n (l'.flatMap enc) := by
  have hfl : (l'.flatMap enc).length = n * k := by
    rw [← flatK_toList hk h0 l', Array.length_toList, size_flatK]
    simp [hl']
  rcases h.2 with ⟨h1, _⟩ | ⟨g', cap', cur, h1, hbase, hb, hn, hm, hz, ht⟩
  · cases h1
  · injection h1 with h1 h2 h3
    injection h1 with h1
    injection h1 with h1
    subst h1
    subst h3
    have hg : g < W.heap.size := (Array.getElem?_eq_some_iff.1 hb).1
    refine ⟨by rw [hfl], .inr ⟨g, cap, putCells id 0 (flatK enc k l'.toArray) cur, rfl, hbase, ?_, hn, hm, by simp [putCells, hz], ?_⟩⟩
    · rw [heap_grow_old _ _ (by simpa [putRowK] using hg)]
      simp [putRowK, putRow, mapBlock, Sort.ahead, Array.getElem?_modify, hb, onCells]
    · apply List.ext_getElem?
      intro j
      rcases Nat.lt_or_ge j (n * k) with hj | hj
      · have hjc : j < cur.size := by
          have : n * k ≤ cap * k := Nat.mul_le_mul_right _ hn
          omega
        rw [List.getElem?_take_of_lt hj, Array.getElem?_toList, get_flat hk h0 l' j (by rw [hl']; exact hj)]
        simp only [putCells, Array.getElem?_mapIdx, Array.getElem?_eq_getElem hjc, Option.map_some, Nat.zero_le, Nat.zero_add, size_flatK, true_and, Nat.sub_zero, id]
        rw [if_pos (by simpa [hl'] using hj), get_flatK enc k l'.toArray j (by simpa [hl'] using hj)]
      · rw [List.getElem?_take_eq_none (by omega), List.getElem?_eq_none (by omega)]
/-- A row whose elements' cells are told by enc alone. -/
theorem flat_of_reps {R : α → List Value → Prop} (hR : ∀ x cs, R x cs → cs = enc x) (hk : ∀ x, (enc x).length = k) (h0 : 0 < k) {l : List α} {inner : List Value} (h : Reps R k l inner) : inner = l.flatMap enc := by
  apply List.ext_getElem?
  intro t
  rcases Nat.lt_or_ge t (l.length * k) with ht | ht
  · rw [get_flat hk h0 l t ht]
    have hd : t / k < l.length := (Nat.div_lt_iff_lt_mul h0).2 ht
    have h1 := hR _ _ (h.2 (t / k) _ (List.getElem?_eq_getElem hd))
    have h2 : (l.toArray[t / k]!) = l[t / k] := by simp [hd]
    rw [h2, ← h1]
    have hm := Nat.mod_lt t h0
    have hdm : t / k * k + t % k = t := by rw [Nat.mul_comm]; exact Nat.div_add_mod t k
    have hin : t < inner.length := by rw [h.1]; exact ht
    have h3 : ((inner.drop (t / k * k)).take k)[t % k]? = inner[t]? := by
      rw [List.getElem?_take_of_lt hm, List.getElem?_drop, hdm]
    rw [← h3]
    have h4 : t % k < ((inner.drop (t / k * k)).take k).length := by
      rw [h1, hk]; exact hm
    have h5 : ∀ (L : List Value) (j : Nat), j < L.length → L[j]? = some L[j]! := fun L j hj => by simp [hj]
    exact h5 _ _ h4
  · have hl : (l.flatMap enc).length = l.length * k := by
      rw [← flatK_toList hk h0 l, Array.length_toList, size_flatK]; simp
    rw [List.getElem?_eq_none (by rw [h.1]; exact ht), List.getElem?_eq_none (by omega)]
theorem reps_of_flat {R : α → List Value → Prop} (hR : ∀ x, R x (enc x)) (hk : ∀ x, (enc x).length = k) : ∀ (l : List α), Reps R k l (l.flatMap enc) := by
  intro l
  have : ∀ (r : List α), Reps R k r.reverse (r.reverse.flatMap enc) := fun r => by
    induction r with
    | nil => exact Reps.none _ _
    | cons x r ih =>
      rw [List.reverse_cons, List.flatMap_append]
      have e : [x].flatMap enc = enc x := by simp
      rw [e]
      exact ih.snoc (hR x) (hk x)
  have h := this l.reverse
  rwa [List.reverse_reverse] at h
variable {P : Program} {ρ : Ren}
/-- sort.Slice(out, less), out a row of one's own that lies in the box Bs, too. -/
theorem sort_own (L : LaysGg.n6 P ρ) (t e : TypeId) (i ie : TypeInfo) (hi : P.info? t = some i) (hd : i.desc = .slice e) (hpk : P.packed t = false) (hie : P.info? e = some ie) (ke : Nat) (hke : ∀ w, (Extern.Rtype.kind e).run P w = .ok ke w)
    (hk : ∀ x, (enc x).length = k) (h0 : 0 < k) (hs1 : ie.size = k) (hagg : ∀ w, (isAgg e).run P w = .ok true w) (h1 : ∀ x, ∀ v ∈ enc x, v.oneCell' = true) (lt : α → α → Bool) (hO : SWO lt) (g : Nat)
    (eg : ∀ args w, (callFunc g args).run P w = .ok (.enter g args) w) (f1 f2 fk : Nat)
    (hf1 : P.funcs.findIdx? (·.name == "internal/reflectlite" ++ ".Swapper$" ++ toString 1) = some f1) (hf2 : P.funcs.findIdx? (·.name == "internal/reflectlite" ++ ".Swapper$" ++ toString 2) = some f2) (K : Nat) (hK : ∀ n, 2 ≤ n → swapperK n ie ke = K)
    (hfk : P.funcs.findIdx? (·.name == "internal/reflectlite" ++ ".Swapper$" ++ toString K) = some fk) (gS : Bool) (hx : ∀ args W, (callFunc fk args).run P W = ((Extern.ReflectliteSwapper.swap gS args).run P W).andThen fun v w' => .ok (.value v) w')
    (Bs : Nat)
    (hless : ∀ (W : World) (blk c : Nat) (G : Array α), W.cell? ⟨Bs, 0, none⟩ = some (.slice (some ⟨blk, 0, none⟩) G.size c) → (∀ j, j < G.size → ∀ c', c' < k → W.cell? ⟨blk, j * k + c', none⟩ = some ((enc G[j]!)[c']!)) → ∀ a b : Nat, a < G.size → b < G.size →
      Calls P g #[.int .i64 a, .int .i64 b, .pointer (some ⟨Bs, 0, none⟩)] W fun e w' => e = .returned (.bool (lt G[a]! G[b]!)) ∧ ∃ q, w' = W.drewN q)
    (W : World) (base : Nat) (v : Value) (l : List α) (hown : W.ownsRow base e k v l.length (l.flatMap enc)) (hbx : W.cell? ⟨Bs, 0, none⟩ = some v) (hne : v.ownBlock ≠ some Bs) (hlen : l.length < 4611686018427387904) :
    Calls P (ρ.f 6) #[.iface t v, .func (.func g) #[] #[.pointer (some ⟨Bs, 0, none⟩)]] W fun en w' =>
      en = .returned (.tuple #[]) ∧ ∃ l' : List α, l'.Perm l ∧ l'.Pairwise (fun a b => lt b a = false) ∧ w'.ownsRow base e k v l'.length (l'.flatMap enc) ∧ W.grownBy w' v.ownBlock := by
  have hBl : Bs < W.heap.size := World.block_lt_of_cell? W _ hbx
  rcases Nat.lt_or_ge l.length 2 with hlt | h2
  · have hp : l.Pairwise (fun a b => lt b a = false) := by
      match l, hlt with
      | [], _ => simp
      | [x], _ => simp
      | x :: y :: r, h => simp at h; omega
    obtain ⟨A, c, rfl⟩ := own_slice hown
    have hS := Any.sort_Slice_tiny L t e i ie hi hd hpk hie ke hke A l.length c (by omega) (if l.length = 0 then f1 else f2) (by
      by_cases hz : l.length = 0
      · have : swapperK l.length ie ke = 1 := by simp [swapperK, hz]
        rw [this, if_pos hz]; exact hf1
      · have h1' : l.length = 1 := by omega
        have : swapperK l.length ie ke = 2 := by simp [swapperK, h1']
        rw [this, if_neg hz]; exact hf2) (.func g) #[] #[.pointer (some ⟨Bs, 0, none⟩)] W
    refine hS.mono ?_
    rintro en w' ⟨rfl, os, rfl⟩
    have hgr : W.grownBy (grow W os) (Value.slice A l.length c).ownBlock := ⟨rfl, rfl, rfl, by simp, fun j hj _ => heap_grow_old W os hj⟩
    refine ⟨rfl, l, List.Perm.refl _, hp, own_move hown (fun j hj => heap_grow_old W os (own_lt hown j hj)), hgr⟩
  · obtain ⟨gb, cap, rfl, hgb, hgl⟩ := World.ownsRow.form hown (by omega)
    have hne' : Bs ≠ gb := fun e => hne (by simp [Value.ownBlock, e])
    have hH := holds_own hk h0 rfl hown
    have hsz : l.toArray.size = l.length := by simp
    have hl : LessReadsK P g #[.pointer (some ⟨Bs, 0, none⟩)] enc k lt gb 0 l.toArray.size W := by
      intro m os dk hs a b ha hb
      have e1 : sortWorldK enc k W gb 0 m dk os = putRowK enc k (grow (Sort.ahead W m) os) gb 0 dk := by
        unfold sortWorldK; rw [putRowK_grow _ _ (Sort.ahead W m) _ gb 0 _ hgl]
      have hHg : HoldsK enc k (grow (Sort.ahead W m) os) gb 0 l.toArray := holdsK_grow _ _ _ _ gb 0 _ hgl (holdsK_ahead _ _ _ _ _ _ _ hH)
      rw [hsz] at hs ha hb
      refine hless _ gb cap dk ?_ (fun j hj c' hc' => ?_) a b (by omega) (by omega)
      · rw [e1, cell?_putRowK_other _ _ _ gb 0 dk _ hne', cell?_grow _ _ _ hBl, hs]; exact hbx
      · rw [e1]
        have := ((holdsK_putRowK _ _ _ gb 0 _ dk hHg (by rw [hs, hsz])).cell (i := j) (c := c') hj hc').1
        simpa using this
    have hS := Any.sort_Slice_cells_sorted L t e i ie hi hd hpk hie ke hke enc k hk hs1 hagg h1 lt hO g #[.pointer (some ⟨Bs, 0, none⟩)] eg gb 0 cap l.toArray (by rw [hsz]; exact h2) (by rw [hsz]; exact hlen) fk (by rw [hsz, hK _ h2]; exact hfk) gS hx W hl hH hgl
    rw [hsz] at hS
    refine hS.mono ?_
    rintro en w' ⟨rfl, d', n, os, hp, hso, rfl⟩
    have hds : d'.size = l.length := by rw [hp.1, hsz]
    have hperm : d'.toList.Perm l := by
      have := hp.2.2
      rwa [show d'.extract 0 l.length = d' by rw [← hds]; simp, show l.toArray.extract 0 l.length = l.toArray by rw [← hsz]; simp] at this
    refine ⟨rfl, d'.toList, hperm, ?_, ?_, grown_sorted d'⟩
    · rw [List.pairwise_iff_getElem]
      intro a b ha hb hab
      have ha' : a < d'.size := by simpa using ha
      have hb' : b < d'.size := by simpa using hb
      have := hso a b (Nat.zero_le _) hab (by omega)
      rw [getElem!_pos d' a ha', getElem!_pos d' b hb'] at this
      simpa using this
    · have hl2 : d'.toList.length = l.length := by simp [hds]
      have := own_sorted (q := n) (os := os) (l := l) (l' := d'.toList) hk h0 rfl hl2 hown
      rw [hl2]
      simpa using this
end
end Go.Proofs.YtcocmdbleicmcaaGreatDoor.Srt
