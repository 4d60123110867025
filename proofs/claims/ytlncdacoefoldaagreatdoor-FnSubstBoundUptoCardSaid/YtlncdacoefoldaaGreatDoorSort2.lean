/- sort.Slice on a row of one's own, its comparison's closure over two boxes. No program of ours. -/
import Derived.Test.YtlncdacoefoldaaGreatDoorSort
namespace Go.Proofs.YtlncdacoefoldaaGreatDoor.Srt
set_option linter.unusedVariables false
set_option linter.unusedSimpArgs false
set_option linter.unusedSectionVars false
open Go.Shelf Go.RowKit Go.Lib Go.Sort Go.Proofs.YtlncdacoefoldaaGreatDoorW.PrintWords

section
variable {α : Type} [Inhabited α] {enc : α → List Value} {k : Nat}
variable {P : Program} {ρ : Ren}
theorem sort_own2 (L : LaysGg.n6 P ρ) (t e : TypeId) (i ie : TypeInfo) (hi : P.info? t = some i) (hd : i.desc = .slice e) (hpk : P.packed t = false) (hie : P.info? e = some ie) (ke : Nat) (hke : ∀ w, (Extern.Rtype.kind e).run P w = .ok ke w)
    (hk : ∀ x, (enc x).length = k) (h0 : 0 < k) (hs1 : ie.size = k) (hagg : ∀ w, (isAgg e).run P w = .ok true w) (h1 : ∀ x, ∀ v ∈ enc x, v.oneCell' = true) (lt : α → α → Bool) (hO : SWO lt) (g : Nat)
    (eg : ∀ args w, (callFunc g args).run P w = .ok (.enter g args) w) (f1 f2 fk : Nat)
    (hf1 : P.funcs.findIdx? (·.name == "internal/reflectlite" ++ ".Swapper$" ++ toString 1) = some f1) (hf2 : P.funcs.findIdx? (·.name == "internal/reflectlite" ++ ".Swapper$" ++ toString 2) = some f2) (K : Nat) (hK : ∀ n, 2 ≤ n → swapperK n ie ke = K)
    (hfk : P.funcs.findIdx? (·.name == "internal/reflectlite" ++ ".Swapper$" ++ toString K) = some fk) (gS : Bool) (hx : ∀ args W, (callFunc fk args).run P W = ((Extern.ReflectliteSwapper.swap gS args).run P W).andThen fun v w' => .ok (.value v) w')
    (Bs Bt : Nat) (tv : Value)
    (hless : ∀ (W : World) (blk c : Nat) (G : Array α), W.cell? ⟨Bs, 0, none⟩ = some (.slice (some ⟨blk, 0, none⟩) G.size c) → W.cell? ⟨Bt, 0, none⟩ = some tv → (∀ j, j < G.size → ∀ c', c' < k → W.cell? ⟨blk, j * k + c', none⟩ = some ((enc G[j]!)[c']!)) → ∀ a b : Nat, a < G.size → b < G.size →
      Calls P g #[.int .i64 a, .int .i64 b, .pointer (some ⟨Bt, 0, none⟩), .pointer (some ⟨Bs, 0, none⟩)] W fun e w' => e = .returned (.bool (lt G[a]! G[b]!)) ∧ ∃ q, w' = W.drewN q)
    (W : World) (base : Nat) (v : Value) (l : List α) (hown : W.ownsRow base e k v l.length (l.flatMap enc)) (hbx : W.cell? ⟨Bs, 0, none⟩ = some v) (hne : v.ownBlock ≠ some Bs) (hbt : W.cell? ⟨Bt, 0, none⟩ = some tv) (hnt : v.ownBlock ≠ some Bt) (hlen : l.length < 4611686018427387904) :
    Calls P (ρ.f 6) #[.iface t v, .func (.func g) #[] #[.pointer (some ⟨Bt, 0, none⟩), .pointer (some ⟨Bs, 0, none⟩)]] W fun en w' =>
      en = .returned (.tuple #[]) ∧ ∃ l' : List α, l'.Perm l ∧ l'.Pairwise (fun a b => lt b a = false) ∧ w'.ownsRow base e k v l'.length (l'.flatMap enc) ∧ W.grownBy w' v.ownBlock := by
  have hBl : Bs < W.heap.size := World.block_lt_of_cell? W _ hbx
  have hTl : Bt < W.heap.size := World.block_lt_of_cell? W _ hbt
  rcases Nat.lt_or_ge l.length 2 with hlt | h2
  · have hp : l.Pairwise (fun a b => lt b a = false) := by
      match l, hlt with
      | [], _ => simp
      | [x], _ => simp
      | x :: y :: r, h => simp at h; omega
    obtain ⟨A, c, rfl⟩ := own_slice hown
    have hS := Any.sort_Slice_tiny L t e i ie hi hd hpk hie ke hke A l.length c (by omega) (if l.length = 0 then f1 else f2) (by
      by_cases hz : l.length = 0
      · have : swapperK l.length ie ke = 1 := by simp [swapperK, hz]
        rw [this, if_pos hz]; exact hf1
      · have h1' : l.length = 1 := by omega
        have : swapperK l.length ie ke = 2 := by simp [swapperK, h1']
        rw [this, if_neg hz]; exact hf2) (.func g) #[] #[.pointer (some ⟨Bt, 0, none⟩), .pointer (some ⟨Bs, 0, none⟩)] W
    refine hS.mono ?_
    rintro en w' ⟨rfl, os, rfl⟩
    have hgr : W.grownBy (grow W os) (Value.slice A l.length c).ownBlock := ⟨rfl, rfl, rfl, by simp, fun j hj _ => heap_grow_old W os hj⟩
    refine ⟨rfl, l, List.Perm.refl _, hp, own_move hown (fun j hj => heap_grow_old W os (own_lt hown j hj)), hgr⟩
  · obtain ⟨gb, cap, rfl, hgb, hgl⟩ := World.ownsRow.form hown (by omega)
    have hne' : Bs ≠ gb := fun e => hne (by simp [Value.ownBlock, e])
    have hnt' : Bt ≠ gb := fun e => hnt (by simp [Value.ownBlock, e])
    have hH := holds_own hk h0 rfl hown
    have hsz : l.toArray.size = l.length := by simp
    have hl : LessReadsK P g #[.pointer (some ⟨Bt, 0, none⟩), .pointer (some ⟨Bs, 0, none⟩)] enc k lt gb 0 l.toArray.size W := by
      intro m os dk hs a b ha hb
      have e1 : sortWorldK enc k W gb 0 m dk os = putRowK enc k (grow (Sort.ahead W m) os) gb 0 dk := by
        unfold sortWorldK; rw [putRowK_grow _ _ (Sort.ahead W m) _ gb 0 _ hgl]
      have hHg : HoldsK enc k (grow (Sort.ahead W m) os) gb 0 l.toArray := holdsK_grow _ _ _ _ gb 0 _ hgl (holdsK_ahead _ _ _ _ _ _ _ hH)
      rw [hsz] at hs ha hb
      refine hless _ gb cap dk ?_ ?_ (fun j hj c' hc' => ?_) a b (by omega) (by omega)
      · rw [e1, cell?_putRowK_other _ _ _ gb 0 dk _ hne', cell?_grow _ _ _ hBl, hs]; exact hbx
      · rw [e1, cell?_putRowK_other _ _ _ gb 0 dk _ hnt', cell?_grow _ _ _ hTl]; exact hbt
      · rw [e1]
        have := ((holdsK_putRowK _ _ _ gb 0 _ dk hHg (by rw [hs, hsz])).cell (i := j) (c := c') hj hc').1
        simpa using this
    have hS := Any.sort_Slice_cells_sorted L t e i ie hi hd hpk hie ke hke enc k hk hs1 hagg h1 lt hO g #[.pointer (some ⟨Bt, 0, none⟩), .pointer (some ⟨Bs, 0, none⟩)] eg gb 0 cap l.toArray (by rw [hsz]; exact h2) (by rw [hsz]; exact hlen) fk (by rw [hsz, hK _ h2]; exact hfk) gS hx W hl hH hgl
    rw [hsz] at hS
    refine hS.mono ?_
    rintro en w' ⟨rfl, d', n, os, hp, hso, rfl⟩
    have hds : d'.size = l.length := by rw [hp.1, hsz]
    have hperm : d'.toList.Perm l := by
      have := hp.2.2
      rwa [show d'.extract 0 l.length = d' by rw [← hds]; simp, show l.toArray.extract 0 l.length = l.toArray by rw [← hsz]; simp] at this
    refine ⟨rfl, d'.toList, hperm, ?_, ?_, grown_sorted d'⟩
    · rw [List.pairwise_iff_getElem]
      intro a b ha hb hab
      have ha' : a < d'.size := by simpa using ha
      have hb' : b < d'.size := by simpa using hb
      have := hso a b (Nat.zero_le _) hab (by omega)
      rw [getElem!_pos d' a ha', getElem!_pos d' b hb'] at this
      simpa using this
    · have hl2 : d'.toList.length = l.length := by simp [hds]
      have := own_sorted (q := n) (os := os) (l := l) (l' := d'.toList) hk h0 rfl hl2 hown
      rw [hl2]
      simpa using this
end
end Go.Proofs.YtlncdacoefoldaaGreatDoor.Srt
