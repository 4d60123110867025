/- Joined texts. -/
import Derived.Test.YtiamiagjkfioiaaGreatDoorSM
import Derived.Test.YtiamiagjkfioiaaGreatDoorAnyF
import Derived.Test.YtiamiagjkfioiaaGreatDoorFine
/- A range over a map whose present entry is written or deleted on the way: what is to come stays. No statement. -/
namespace Go.Proofs.YtiamiagjkfioiaaGreatDoor.SM
set_option linter.unusedVariables false
set_option linter.unusedSimpArgs false
set_option linter.unusedSectionVars false
open Go.RowKit Go.MapKept
open Go.ChangeMaps (setBlock)

theorem filter_modify {α : Type} (q : α → Bool) (f : α → α) : ∀ (l : List α) (j : Nat), (∀ x, l[j]? = some x → q x = false ∧ q (f x) = false) → (l.modify j f).filter q = l.filter q
  | [], j, _ => by simp
  | a :: l, 0, h => by
    obtain ⟨h1, h2⟩ := h a rfl
    simp [List.modify_cons, List.filter_cons, h1, h2]
  | a :: l, j + 1, h => by
    simp only [List.modify_cons, Nat.add_one_ne_zero, if_false, List.filter_cons, Nat.add_sub_cancel]
    rw [filter_modify q f l j (fun x hx => h x (by simpa using hx))]
section
variable {w : World} {b r : Nat} {l rest : Ents} {P : Program} {t k e : TypeId}
theorem seen_of {es : Array MapEntry} {seen : Array Nat} (hl : (leftOf es seen).toList.map kv = rest.map enc) {x : MapEntry} (hx : x ∈ es.toList) {s : ByteArray} (hk : x.key = .string s) (hn : s ∉ keys rest) : seen.contains x.born = true := by
  cases hc : seen.contains x.born with
  | true => rfl
  | false =>
    exfalso
    have hm : x ∈ (leftOf es seen).toList := by
      unfold leftOf
      rw [Array.toList_filter, List.mem_filter]
      exact ⟨hx, by simpa using hc⟩
    have h1 : kv x ∈ rest.map enc := by rw [← hl]; exact List.mem_map_of_mem hm
    obtain ⟨p, hp, hpe⟩ := List.mem_map.1 h1
    have : Value.string p.1 = .string s := (congrArg Prod.fst hpe).trans hk
    injection this with this
    exact hn (by rw [← this]; exact List.mem_map_of_mem hp)
theorem rng_put (ht : P.underlying t = some (.map k e)) (hk : P.underlying k = some .string) (h : SRng w b r l rest) (hne : b ≠ r) (s : ByteArray) (v : Value) (hin : s ∈ keys l) (hrest : s ∉ keys rest) :
    ∃ o, (Instr.mapUpdate t (.map (some b)) (.string s) v).run P w = .ok () (setBlock w b o) ∧ SRng (setBlock w b o) b r (put l s v) rest := by
  obtain ⟨es, clock, since, seen, c0, hb, hs, he, hr, hold, hsc, hl⟩ := h
  have hkey : IsKey .string (.string s) := trivial
  rcases findNow_spec hkey es.toList 0 (isKeys he) with ⟨h1, h2⟩ | ⟨j, x, h1, h2, h3⟩
  · exact absurd hin (has_false.1 (none_of he h2))
  · obtain ⟨p, hp, hp1, hp2⟩ := ent_at he j h2
    have h3' := h3
    rw [h3] at hp1
    obtain rfl : s = p.1 := by injection hp1
    have h5 := find_of (nodup_of hs he) hp
    have h4 := (look_some h5).2
    have hj : es[j]? = some x := by simpa using h2
    have hsx := seen_of hl (List.mem_of_getElem? h2) h3' hrest
    refine ⟨.map (es.modify j fun e => { key := .string p.1, val := v, born := e.born }) clock, by simp [Instr.mapUpdate, run_underlying ht, MapKept.run_getObj_map hb, run_checkKey hk hkey, run_findKey hk h1, hj, h3, run_keyThatStays hkey, MapKept.run_setObj_map _ hb, Result.andThen, setBlock], es.modify j fun e => { key := .string p.1, val := v, born := e.born }, clock, since, seen, c0, (MapKept.heap_set hb).1, stamped_modify hs _ _ (fun _ _ => rfl) (fun e' _ he' => by rw [hj] at he'; cases he'; exact h3.symm), ?_, (setBlock_other w b _ (Ne.symm hne)).trans hr, ?_, hsc, ?_⟩
    · rw [kv_modify, he, put, h4, if_pos rfl, map_put (nodup_of hs he) hp, List.map_set]
      rfl
    · intro y hy
      obtain ⟨i, hi⟩ := List.getElem?_of_mem hy
      rw [Array.getElem?_toList, Array.getElem?_modify] at hi
      split at hi
      · cases he2 : es[i]? with
        | none => rw [he2] at hi; cases hi
        | some z =>
          rw [he2] at hi
          injection hi with hi
          rw [← hi]
          exact hold z (List.mem_of_getElem? (by rw [Array.getElem?_toList]; exact he2))
      · exact hold y (List.mem_of_getElem? (by rw [Array.getElem?_toList]; exact hi))
    · rw [← hl]
      unfold leftOf
      rw [Array.toList_filter, Array.toList_filter, Array.toList_modify, filter_modify]
      intro y hy
      rw [h2] at hy
      injection hy with hy
      subst hy
      exact ⟨by rw [hsx]; rfl, by show (!seen.contains x.born) = false; rw [hsx]; rfl⟩
end
end Go.Proofs.YtiamiagjkfioiaaGreatDoor.SM
/- Worlds that changed in blocks of a kind alone; a range over a map whose present entry is written. Plain. -/
namespace Go.Proofs.YtiamiagjkfioiaaGreatDoor.SM
set_option linter.unusedVariables false
set_option linter.unusedSimpArgs false
set_option linter.unusedSectionVars false
open Go.RowKit Go.MapKept
section
variable {w : World} {b r : Nat} {P : Program} {t k e : TypeId} {β : Type} {cenc : β → Value} {m rm : List (ByteArray × β)} {ops : Array Oper} {os : List Oper} {o : Oper} {a : Act} {Q : Exit → Act → World → Prop}
theorem TRng.move {w' : World} (h : TRng w b r cenc m rm) (hm : w'.heap[b]? = w.heap[b]?) (hm' : w'.heap[r]? = w.heap[r]?) : TRng w' b r cenc m rm := SRng.move h hm hm'
/-- the write of an entry that is there, in the round -/
theorem wp_putR (hg : o.guard = none) (mo xo vo : Operand) (hop : o.op = Op.mapUpdate t mo xo vo) (ht : P.underlying t = some (.map k e)) (hk : P.underlying k = some .string)
    (hm : a.eval mo = .map (some b)) (h : TRng w b r cenc m rm) (hne : b ≠ r) (s : ByteArray) (v : β) (hin : s ∈ keys m) (hrest : s ∉ keys rm) (hx : a.eval xo = .string s) (hv : a.eval vo = cenc v)
    (hK : ∀ w', TRng w' b r cenc (put m s v) rm → w.grownBy w' (some b) → w'.heap.size = w.heap.size → wpList P ops Q os (a.put o.dst undef) w') : wpList P ops Q (o :: os) a w := by
  refine wpList_plain hg fun K' hK' => ?_
  obtain ⟨ob, hrun, hs⟩ := rng_put (P := P) ht hk h hne s (cenc v) (by rw [keys_mapE]; exact hin) (by rw [keys_mapE]; exact hrest)
  rw [put_mapE] at hs
  unfold Oper.wp
  simp [execOp, hop, hm, hx, hv, hrun, Result.andThen]
  exact hK' _ _ (hK _ hs (setBlock_grown w b ob) (setBlock_size w b ob))
end
end Go.Proofs.YtiamiagjkfioiaaGreatDoor.SM
namespace Go.Proofs.YtiamiagjkfioiaaGreatDoor.A
open Go.RowKit Go.Proofs.YtiamiagjkfioiaaGreatDoorW.PrintWords Go.Proofs.YtiamiagjkfioiaaGreatDoorW.PrintLast Go.Proofs.YtiamiagjkfioiaaGreatDoorW.PrintMore Go.Proofs.YtiamiagjkfioiaaGreatDoor.PT Go.Proofs.YtiamiagjkfioiaaGreatDoor.L Go.Proofs.YtiamiagjkfioiaaGreatDoor.SM

/-- a world that has changed in blocks of P alone, and grown -/
structure Only (P : Nat → Prop) (w w' : World) : Prop where
  os : w'.os = w.os
  tape : w'.tape = w.tape
  output : w'.output = w.output
  size : w.heap.size ≤ w'.heap.size
  block : ∀ k, k < w.heap.size → ¬ P k → w'.heap[k]? = w.heap[k]?
theorem Only.refl (P : Nat → Prop) (w : World) : Only P w w := ⟨rfl, rfl, rfl, Nat.le_refl _, fun _ _ _ => rfl⟩
theorem Only.trans {P P' : Nat → Prop} {a b c : World} (h : Only P a b) (k : Only P' b c) (hP : ∀ q, P' q → q < a.heap.size → P q) : Only P a c :=
  ⟨k.os.trans h.os, k.tape.trans h.tape, k.output.trans h.output, Nat.le_trans h.size k.size, fun q hq hn => (k.block q (Nat.lt_of_lt_of_le hq h.size) (fun e => hn (hP q e hq))).trans (h.block q hq hn)⟩
theorem Only.of_below {P : Nat → Prop} {w w' : World} (h : Below w.heap.size w w') : Only P w w' := ⟨h.os, h.tape, h.output, h.size, fun k hk _ => h.block k hk⟩
theorem Only.of_grown {P : Nat → Prop} {w w' : World} {b : Nat} (h : w.grownBy w' (some b)) (hb : P b) : Only P w w' := ⟨h.os, h.tape, h.output, h.size, fun k hk hn => h.block k hk (fun e => by injection e with e; exact hn (e ▸ hb))⟩
theorem Only.toBelow {P : Nat → Prop} {B : Nat} {w w' : World} (h : Only P w w') (hP : ∀ k, P k → B ≤ k) (hB : B ≤ w.heap.size) : Below B w w' := ⟨h.os, h.tape, h.output, h.size, fun k hk => h.block k (Nat.lt_of_lt_of_le hk hB) (fun e => by have := hP k e; omega)⟩
theorem mem_keys_del {β : Type} {rm : List (ByteArray × β)} {s k : ByteArray} : k ∈ SM.keys (del rm s) ↔ k ≠ s ∧ k ∈ SM.keys rm := by
  unfold SM.keys
  constructor
  · intro h
    obtain ⟨q, hq, rfl⟩ := List.mem_map.1 h
    have := (mem_del q).1 hq
    exact ⟨this.1, List.mem_map_of_mem this.2⟩
  · rintro ⟨h1, h2⟩
    obtain ⟨q, hq, rfl⟩ := List.mem_map.1 h2
    exact List.mem_map_of_mem ((mem_del q).2 ⟨h1, hq⟩)
end Go.Proofs.YtiamiagjkfioiaaGreatDoor.A
/- What a value of the package comes back as, with the blocks that it takes up: no two of its parts share one; a map's keys stand in any order. Plain. -/
namespace Go.Proofs.YtiamiagjkfioiaaGreatDoor.A
set_option linter.unusedVariables false
set_option linter.unusedSimpArgs false
set_option linter.unusedSectionVars false
open Go.RowKit Go.Proofs.YtiamiagjkfioiaaGreatDoorW.PrintWords Go.Proofs.YtiamiagjkfioiaaGreatDoorW.PrintLast Go.Proofs.YtiamiagjkfioiaaGreatDoorW.PrintMore Go.Proofs.YtiamiagjkfioiaaGreatDoor.PT Go.Proofs.YtiamiagjkfioiaaGreatDoor.L Go.Proofs.YtiamiagjkfioiaaGreatDoor.SM

inductive FromF (w : World) : (Nat → Prop) → AV → IV → Prop
  | nil {P : Nat → Prop} : FromF w P .nil ⟨0, 0, be, [], []⟩
  | bool {P : Nat → Prop} (b : Bool) : FromF w P (.bool b) ⟨1, if b then 1 else 0, be, [], []⟩
  | int {P : Nat → Prop} (i : Int) : FromF w P (.int i) ⟨2, i, be, [], []⟩
  | text {P : Nat → Prop} (s : ByteArray) : FromF w P (.text s) ⟨3, 0, s, [], []⟩
  | list {P : Nat → Prop} {A : Option Addr} {c : Nat} {vs : List AV} {ys : List IV} (Q : Nat → Nat → Prop) (hl : vs.length = ys.length) (hc : vs.length ≤ c) (hb : vs.length ≤ 1099511627776) (hr : kA.C w A vs.length vs) (hA : 0 < vs.length → ∀ ad, A = some ad → P ad.block ∧ ∀ i, ¬ Q i ad.block)
      (hQ : ∀ i k, Q i k → P k) (hd : ∀ i j k, Q i k → Q j k → i = j) (he : ∀ (i : Nat) (h1 : i < vs.length) (h2 : i < ys.length), FromF w (Q i) (vs[i]'h1) (ys[i]'h2)) : FromF w P (.sl A vs.length c) ⟨4, 0, be, [], ys⟩
  | map {P : Nat → Prop} {b : Nat} {m : List (ByteArray × AV)} {ks : List ByteArray} {ys : List IV} (Q : ByteArray → Nat → Prop) (hm : TMap w b AV.enc m) (hP : P b) (hbQ : ∀ k, ¬ Q k b) (hQ : ∀ k n, Q k n → P n) (hd : ∀ k k' n, Q k n → Q k' n → k = k') (hb : m.length ≤ 1099511627776) (hk : ks = Ord.sortS (SM.keys m)) (hl : ys.length = ks.length)
      (he : ∀ (i : Nat) (h1 : i < ks.length) (h2 : i < ys.length) (v : AV), SM.look m (ks[i]'h1) = some v → FromF w (Q (ks[i]'h1)) v (ys[i]'h2)) : FromF w P (.map b) ⟨5, 0, be, ks, ys⟩
theorem FromF.kept {w w' : World} {P : Nat → Prop} {v : AV} {y : IV} (h : FromF w P v y) : (∀ k, P k → k < w.heap.size → w'.heap[k]? = w.heap[k]?) → FromF w' P v y := by
  induction h with
  | nil => exact fun _ => .nil
  | bool b => exact fun _ => .bool b
  | int b => exact fun _ => .int b
  | text b => exact fun _ => .text b
  | list Q hl hc hb hr hA hQ hd he ih =>
    intro hk
    refine .list Q hl hc hb ?_ hA hQ hd (fun i h1 h2 => ih i h1 h2 (fun k hk' => hk k (hQ i k hk')))
    rcases Nat.eq_zero_or_pos _ with hz | hp
    · obtain ⟨q1, q2, q3⟩ := hr
      exact ⟨q1, q2, fun hp => absurd hz (Nat.pos_iff_ne_zero.1 hp)⟩
    · exact kA_move hr (fun ad e hlt => hk _ (hA hp ad e).1 hlt)
  | map Q hm hP hbQ hQ hd hb hk hl he ih =>
    exact fun hh => .map Q (SMap.move hm (hh _ hP hm.lt)) hP hbQ hQ hd hb hk hl (fun i h1 h2 v hv => ih i h1 h2 v hv (fun k hk' => hh k (hQ _ k hk')))
theorem FromF.below_ {w w' : World} {P : Nat → Prop} {v : AV} {y : IV} (h : FromF w P v y) (hb : Below w.heap.size w w') : FromF w' P v y := h.kept (fun k _ hk => hb.block k hk)
theorem FromF.imp {w : World} {P P' : Nat → Prop} {v : AV} {y : IV} (h : FromF w P v y) (hi : ∀ k, P k → P' k) : FromF w P' v y := by
  cases h with
  | nil => exact .nil
  | bool b => exact .bool b
  | int b => exact .int b
  | text b => exact .text b
  | list Q hl hc hb hr hA hQ hd he => exact .list Q hl hc hb hr (fun hp ad e => ⟨hi _ (hA hp ad e).1, (hA hp ad e).2⟩) (fun i k hk => hi _ (hQ i k hk)) hd he
  | map Q hm hP hbQ hQ hd hb hk hl he => exact .map Q hm (hi _ hP) hbQ (fun k n hn => hi _ (hQ k n hn)) hd hb hk hl he
theorem FromF.toFrom {w : World} {P : Nat → Prop} {v : AV} {y : IV} (h : FromF w P v y) : FromIs w v y := by
  induction h with
  | nil => exact .nil
  | bool b => exact .bool b
  | int b => exact .int b
  | text b => exact .text b
  | list Q hl hc hb hr hA hQ hd he ih => exact .list hl hc hb hr ih
  | map Q hm hP hbQ hQ hd hb hk hl he ih => exact .map hm hb hk hl ih
/-- a tree's child by its key -/
def kidI (y : IV) (k : ByteArray) : Option IV := SM.look (y.f3.zip y.f4) k
theorem keys_zip {α : Type} {ks : List ByteArray} {ys : List α} (hl : ys.length = ks.length) : SM.keys (ks.zip ys) = ks := by unfold SM.keys; exact List.map_fst_zip (by omega)
theorem kid_at {y : IV} (hl : y.f4.length = y.f3.length) (hn : y.f3.Nodup) {i : Nat} (h3 : i < y.f3.length) (h4 : i < y.f4.length) : kidI y (y.f3[i]'h3) = some (y.f4[i]'h4) := by
  unfold kidI
  refine find_of (j := i) (p := (y.f3[i]'h3, y.f4[i]'h4)) (by rw [keys_zip hl]; exact hn) ?_
  rw [List.getElem?_zip_eq_some]
  exact ⟨List.getElem?_eq_getElem h3, List.getElem?_eq_getElem h4⟩
/-- a map, in words of its children by key -/
theorem FromF.mapK {w : World} {P : Nat → Prop} {b : Nat} {m : List (ByteArray × AV)} {z : IV} (hz : Fine z) (h5 : z.f0 = 5) (Q : ByteArray → Nat → Prop) (hm : TMap w b AV.enc m) (hP : P b) (hbQ : ∀ k, ¬ Q k b) (hQ : ∀ k n, Q k n → P n) (hd : ∀ k k' n, Q k n → Q k' n → k = k')
    (hk : ∀ k, k ∈ SM.keys m ↔ k ∈ z.f3) (he : ∀ k v, SM.look m k = some v → ∃ y, kidI z k = some y ∧ FromF w (Q k) v y) : FromF w P (.map b) z := by
  cases hz with
  | nil => cases h5
  | bool b => cases h5
  | int b => cases h5
  | text b => cases h5
  | list _ _ => cases h5
  | @map ks ys ha hl hb hy =>
    have hpm : (SM.keys m).Perm ks := (List.perm_ext_iff_of_nodup hm.nodup (asc_nodup ha)).2 hk
    have hml : m.length = ks.length := by have := hpm.length_eq; simpa [SM.keys] using this
    refine .map Q hm hP hbQ hQ hd (by omega) ?_ hl (fun i h1 h2 v hv => ?_)
    · exact Ord.sortS_unique (asc_srt ha) hpm.symm
    · obtain ⟨y, hy1, hy2⟩ := he _ v hv
      have := kid_at (y := ⟨5, 0, be, ks, ys⟩) hl (asc_nodup ha) h1 h2
      rw [this] at hy1
      injection hy1 with hy1
      rw [hy1]
      exact hy2
/-- a map's parts, by key -/
theorem FromF.unmap {w : World} {P : Nat → Prop} {v : AV} {y : IV} (h : FromF w P v y) (h5 : y.f0 = 5) : ∃ (b : Nat) (m : List (ByteArray × AV)) (Q : ByteArray → Nat → Prop), v = .map b ∧ TMap w b AV.enc m ∧ P b ∧ (∀ k, ¬ Q k b) ∧ (∀ k n, Q k n → P n) ∧ (∀ k k' n, Q k n → Q k' n → k = k') ∧ (∀ k, k ∈ SM.keys m ↔ k ∈ y.f3) ∧
    ∀ k u, SM.look m k = some u → ∃ x, kidI y k = some x ∧ FromF w (Q k) u x := by
  cases h with
  | nil => cases h5
  | bool b => cases h5
  | int b => cases h5
  | text b => cases h5
  | list _ _ => cases h5
  | @map _ b m ks ys Q hm hP hbQ hQ hd hb hk hl he =>
    have hpm : ks.Perm (SM.keys m) := by rw [hk]; exact Ord.sortS_perm _
    have hmem : ∀ k, k ∈ SM.keys m ↔ k ∈ ks := fun k => hpm.symm.mem_iff
    refine ⟨b, m, Q, rfl, hm, hP, hbQ, hQ, hd, hmem, fun k u hu => ?_⟩
    have hkm : k ∈ ks := (hmem k).1 (has_iff.1 (look_some hu).2)
    obtain ⟨i, hi, rfl⟩ := List.mem_iff_getElem.1 hkm
    have h4 : i < ys.length := by omega
    exact ⟨ys[i]'h4, kid_at (y := ⟨5, 0, be, ks, ys⟩) hl (hpm.nodup_iff.2 hm.nodup) hi h4, he i hi h4 u hu⟩
theorem AnyF.toldF {w : World} {P : Nat → Prop} {x : IV} {v : AV} (h : AnyF w P x v) : Fine x → FromF w P v x := by
  induction h with
  | @nil P x h => intro hf; cases hf with
    | nil => exact .nil
    | bool b => exact absurd h (by simp)
    | int i => exact absurd h (by simp)
    | text s => exact absurd h (by simp)
    | list _ _ => exact absurd h (by simp)
    | map _ _ _ _ => exact absurd h (by simp)
  | @bool P x h => intro hf; cases hf with
    | bool b => cases b <;> exact FromF.bool _
    | nil => cases h
    | int i => cases h
    | text s => cases h
    | list _ _ => cases h
    | map _ _ _ _ => cases h
  | @int P x h => intro hf; cases hf with
    | int i => exact .int i
    | nil => cases h
    | bool i => cases h
    | text s => cases h
    | list _ _ => cases h
    | map _ _ _ _ => cases h
  | @text P x h => intro hf; cases hf with
    | text s => exact .text s
    | nil => cases h
    | bool i => cases h
    | int s => cases h
    | list _ _ => cases h
    | map _ _ _ _ => cases h
  | @list P x A c vs Q h hl hc hr hA hQ hd he ih => intro hf; cases hf with
    | list hb hy => exact .list Q hl hc (by rw [hl]; exact hb) hr hA hQ hd (fun i h1 h2 => ih i h2 h1 (hy _ (List.getElem_mem h2)))
    | nil => cases h
    | bool i => cases h
    | int s => cases h
    | text s => cases h
    | map _ _ _ _ => cases h
  | @map P x b m Q h hm hb hbQ hQ hd hk hl he ih => intro hf; cases hf with
    | @map ks ys ha hyl hyb hy =>
      refine FromF.mapK (.map ha hyl hyb hy) rfl Q hm hb hbQ hQ hd (fun k => by rw [← hk]; rfl) (fun k v hv => ?_)
      obtain ⟨i, hi, e⟩ := List.mem_iff_getElem.1 (look_some hv).1
      have h4 : i < ys.length := by rw [← hl]; exact hi
      have h3 : i < ks.length := by rw [← hyl]; exact h4
      have ek : ks[i]'h3 = k := by
        have : (m.map (·.1))[i]? = ks[i]? := by rw [hk]
        rw [List.getElem?_map, List.getElem?_eq_getElem hi, List.getElem?_eq_getElem h3, Option.map_some, Option.some.injEq] at this
        rw [← this, e]
      have hv2 := ih i h4 hi (hy _ (List.getElem_mem h4))
      rw [e] at hv2
      exact ⟨ys[i]'h4, by rw [← ek]; exact kid_at (y := ⟨5, 0, be, ks, ys⟩) hyl (asc_nodup ha) h3 h4, hv2⟩
    | nil => cases h
    | bool i => cases h
    | int s => cases h
    | text s => cases h
    | list _ _ => cases h
end Go.Proofs.YtiamiagjkfioiaaGreatDoor.A
