/- Maps with string keys and whatever elements, as lists of keys and values: their operations' runs, and the laws at the operations. No statement. -/
import Derived.Maps.OwnSet
import Derived.Maps.RangeWalk
import Derived.Maps.RangeRun
import Derived.Below
import Derived.WalkKit
import Derived.ProofKit
namespace Go.Proofs.YtiamiagjkfioiaaGreatDoor.SM
set_option linter.unusedVariables false
set_option linter.unusedSimpArgs false
set_option linter.unusedSectionVars false
open Go.RowKit Go.MapKept
open Go.ChangeMaps (setBlock)

section
variable {β : Type}
def look (l : List (ByteArray × β)) (k : ByteArray) : Option β := (l.find? (fun p => decide (p.1 = k))).map (·.2)
def has (l : List (ByteArray × β)) (k : ByteArray) : Bool := l.any (fun p => decide (p.1 = k))
def put (l : List (ByteArray × β)) (k : ByteArray) (v : β) : List (ByteArray × β) := if has l k then l.map (fun p => if p.1 = k then (k, v) else p) else l ++ [(k, v)]
def del (l : List (ByteArray × β)) (k : ByteArray) : List (ByteArray × β) := l.filter (fun p => decide (p.1 ≠ k))
def keys (l : List (ByteArray × β)) : List ByteArray := l.map (·.1)
end
abbrev Ents := List (ByteArray × Value)

def kv (e : MapEntry) : Value × Value := (e.key, e.val)
def enc (p : ByteArray × Value) : Value × Value := (.string p.1, p.2)
/-- Block b is a map: its entries, in the order in which they stand there. -/
def SMap (w : World) (b : Nat) (l : Ents) : Prop := ∃ es clock, w.heap[b]? = some (.map es clock) ∧ Stamped es clock ∧ es.toList.map kv = l.map enc

section
variable {β : Type}
theorem look_none {l : List (ByteArray × β)} {k : ByteArray} : look l k = none ↔ has l k = false := by
  unfold look has
  rw [Option.map_eq_none_iff, List.find?_eq_none, List.any_eq_false]
theorem look_some {l : List (ByteArray × β)} {k : ByteArray} {v : β} (h : look l k = some v) : (k, v) ∈ l ∧ has l k = true := by
  unfold look at h
  obtain ⟨p, hp, rfl⟩ := Option.map_eq_some_iff.1 h
  have h1 := List.mem_of_find?_eq_some hp
  have h2 := List.find?_some hp
  simp at h2
  subst h2
  exact ⟨h1, List.any_eq_true.2 ⟨p, h1, by simp⟩⟩
theorem has_iff {l : List (ByteArray × β)} {k : ByteArray} : has l k = true ↔ k ∈ keys l := by
  simp [has, keys]
theorem has_false {l : List (ByteArray × β)} {k : ByteArray} : has l k = false ↔ k ∉ keys l := by
  rw [← has_iff]; simp
theorem find_of {l : List (ByteArray × β)} (hn : (keys l).Nodup) {j : Nat} {p : ByteArray × β} (hp : l[j]? = some p) : look l p.1 = some p.2 := by
  induction l generalizing j with
  | nil => simp at hp
  | cons q l ih =>
    unfold look
    rw [List.find?_cons]
    unfold keys at hn
    rw [List.map_cons, List.nodup_cons] at hn
    cases j with
    | zero =>
      simp at hp
      subst hp
      simp
    | succ j =>
      simp at hp
      have hne : q.1 ≠ p.1 := fun e => hn.1 (by rw [e]; exact List.mem_map_of_mem (List.mem_of_getElem? hp))
      simp [hne]
      have := ih hn.2 hp
      unfold look at this
      simpa using this
theorem look_mem {l : List (ByteArray × β)} (hn : (keys l).Nodup) {p : ByteArray × β} (hp : p ∈ l) : look l p.1 = some p.2 := by
  obtain ⟨j, hj⟩ := List.getElem?_of_mem hp
  exact find_of hn hj
theorem mem_put {l : List (ByteArray × β)} {k : ByteArray} {v : β} (p : ByteArray × β) : p ∈ put l k v ↔ p = (k, v) ∨ (p.1 ≠ k ∧ p ∈ l) := by
  unfold put
  split
  · rename_i h
    obtain ⟨q, hq, e⟩ := List.any_eq_true.1 h
    have e := of_decide_eq_true e
    rw [List.mem_map]
    constructor
    · rintro ⟨a, ha, rfl⟩
      split
      · exact .inl rfl
      · rename_i hne; exact .inr ⟨hne, ha⟩
    · rintro (rfl | ⟨h1, h2⟩)
      · exact ⟨q, hq, by rw [if_pos e]⟩
      · exact ⟨p, h2, by rw [if_neg h1]⟩
  · rename_i h
    have h := has_false.1 (by simpa using h)
    rw [List.mem_append, List.mem_singleton]
    constructor
    · rintro (h1 | h1)
      · exact .inr ⟨fun e => h (by rw [← e]; exact List.mem_map_of_mem h1), h1⟩
      · exact .inl h1
    · rintro (h1 | ⟨_, h1⟩)
      · exact .inr h1
      · exact .inl h1
theorem mem_del {l : List (ByteArray × β)} {k : ByteArray} (p : ByteArray × β) : p ∈ del l k ↔ p.1 ≠ k ∧ p ∈ l := by
  simp [del, and_comm]
theorem length_del {l : List (ByteArray × β)} (hn : (keys l).Nodup) {p : ByteArray × β} (hp : p ∈ l) : (del l p.1).length + 1 = l.length := by
  induction l with
  | nil => simp at hp
  | cons q l ih =>
    unfold keys at hn
    rw [List.map_cons, List.nodup_cons] at hn
    unfold del
    rw [List.filter_cons]
    rcases List.mem_cons.1 hp with rfl | hp
    · have : l.filter (fun x => decide (x.1 ≠ p.1)) = l := List.filter_eq_self.2 (fun a ha => by
        simp
        exact fun e => hn.1 (by rw [← e]; exact List.mem_map_of_mem ha))
      simp only [ne_eq, not_true_eq_false, decide_false, Bool.false_eq_true, if_false]
      rw [show List.filter (fun x => decide ¬x.fst = p.fst) l = l from this]
      rfl
    · have hne : q.1 ≠ p.1 := fun e => hn.1 (by rw [e]; exact List.mem_map_of_mem hp)
      simp only [ne_eq, hne, not_false_eq_true, decide_true, if_true, List.length_cons]
      have := ih hn.2 hp
      unfold del at this
      simp only [ne_eq] at this
      omega
/-- the same, of values that are cells -/
def mapE (enc : β → Value) (m : List (ByteArray × β)) : Ents := m.map (fun p => (p.1, enc p.2))
theorem keys_mapE (enc : β → Value) (m : List (ByteArray × β)) : keys (mapE enc m) = keys m := by simp [keys, mapE]
theorem has_mapE (enc : β → Value) (m : List (ByteArray × β)) (k : ByteArray) : has (mapE enc m) k = has m k := by simp [has, mapE, Function.comp_def]
theorem look_mapE (enc : β → Value) (m : List (ByteArray × β)) (k : ByteArray) : look (mapE enc m) k = (look m k).map enc := by
  simp [look, mapE, List.find?_map, Function.comp_def]
theorem put_mapE (enc : β → Value) (m : List (ByteArray × β)) (k : ByteArray) (v : β) : put (mapE enc m) k (enc v) = mapE enc (put m k v) := by
  unfold put
  rw [has_mapE]
  split
  · simp only [mapE, List.map_map]
    apply List.map_congr_left
    intro a _
    simp only [Function.comp]
    split <;> rfl
  · simp [mapE]
theorem del_mapE (enc : β → Value) (m : List (ByteArray × β)) (k : ByteArray) : del (mapE enc m) k = mapE enc (del m k) := by
  simp [del, mapE, List.filter_map, Function.comp_def]
end

section
variable {P : Program} {w : World} {b r : Nat} {l rest : Ents} {t k e : TypeId}
theorem SMap.lt (h : SMap w b l) : b < w.heap.size := by
  obtain ⟨es, clock, hb, _⟩ := h
  exact (Array.getElem?_eq_some_iff.1 hb).1
theorem SMap.move {w' : World} (h : SMap w b l) (hm : w'.heap[b]? = w.heap[b]?) : SMap w' b l := by
  obtain ⟨es, clock, hb, r⟩ := h
  exact ⟨es, clock, hm.trans hb, r⟩
theorem SMap.grown {w' : World} {row : Option Nat} (h : SMap w b l) (hg : w.grownBy w' row) (hne : some b ≠ row) : SMap w' b l := h.move (hg.block b h.lt hne)
theorem SMap.below {w' : World} (h : SMap w b l) (hb : Below w.heap.size w w') : SMap w' b l := h.move (hb.block b h.lt)
theorem SMap.alloc (h : SMap w b l) (o : Obj) : SMap (w.alloc o) b l := h.below ((Below.refl _ _).alloc (Nat.le_refl _) o)
theorem SMap.drew (h : SMap w b l) : SMap w.drew b l := h
theorem SMap.set (h : SMap w b l) (a : Addr) (u : Value) : SMap (w.setCell a u) b l := by
  by_cases e : a.block = b
  · obtain ⟨es, clock, hb, r⟩ := h
    refine ⟨es, clock, ?_, r⟩
    subst e
    simp [World.setCell, Array.getElem?_modify, hb]
  · exact h.move (Below.heap_setCell w a u b (fun q => e q.symm))
theorem SMap.made (w : World) : SMap (w.alloc (.map #[] 0)) w.heap.size [] := ⟨#[], 0, (MapKept.heap_alloc w _).1, stamped_empty 0, rfl⟩
theorem run_makeHint {P : Program} {t k e : TypeId} (ht : P.underlying t = some (.map k e)) (q : IntKind) (n : Int) (w : World) : (Instr.makeMap t (some (.int q n))).run P w = .ok (.map (some w.heap.size)) (w.alloc (.map #[] 0)) := by
  simp [Instr.makeMap, run_underlying ht, Result.andThen, asInt]
  rfl
theorem isKeys {es : Array MapEntry} {l : Ents} (h : es.toList.map kv = l.map enc) : ∀ x ∈ es.toList, IsKey .string x.key := by
  intro x hx
  have : kv x ∈ l.map enc := by rw [← h]; exact List.mem_map_of_mem hx
  obtain ⟨p, _, hp⟩ := List.mem_map.1 this
  have h1 : x.key = .string p.1 := (congrArg Prod.fst hp).symm
  rw [h1]
  trivial
/-- The keys are told apart. -/
theorem nodup_of {es : Array MapEntry} {clock : Nat} {l : Ents} (hs : Stamped es clock) (h : es.toList.map kv = l.map enc) : (keys l).Nodup := by
  have h3 := ((stamped_iff es clock).1 hs).2.2
  have h4 : (es.toList.map kv).Pairwise (fun x y => x.1 ≠ y.1) := List.pairwise_map.2 h3
  rw [h] at h4
  have h5 := List.pairwise_map.1 h4
  unfold keys List.Nodup
  rw [List.pairwise_map]
  exact h5.imp (fun h e => h (by simp [enc, e]))
theorem SMap.nodup (h : SMap w b l) : (keys l).Nodup := by
  obtain ⟨es, clock, hb, hs, he⟩ := h
  exact nodup_of hs he
theorem ent_at {es : Array MapEntry} {l : Ents} (h : es.toList.map kv = l.map enc) (j : Nat) {x : MapEntry} (hx : es.toList[j]? = some x) : ∃ p, l[j]? = some p ∧ x.key = .string p.1 ∧ x.val = p.2 := by
  have h1 : (l.map enc)[j]? = some (kv x) := by rw [← h, List.getElem?_map, hx]; rfl
  rw [List.getElem?_map] at h1
  obtain ⟨p, hp, he⟩ := Option.map_eq_some_iff.1 h1
  exact ⟨p, hp, (congrArg Prod.fst he).symm, (congrArg Prod.snd he).symm⟩
theorem none_of {es : Array MapEntry} {l : Ents} (h : es.toList.map kv = l.map enc) {s : ByteArray} (hs : ∀ x ∈ es.toList, x.key ≠ .string s) : has l s = false := by
  rw [has_false]
  intro hm
  obtain ⟨p, hp, rfl⟩ := List.mem_map.1 hm
  have : enc p ∈ es.toList.map kv := by rw [h]; exact List.mem_map_of_mem hp
  obtain ⟨x, hx, he⟩ := List.mem_map.1 this
  exact hs x hx (congrArg Prod.fst he)
theorem run_look (ht : P.underlying t = some (.map k e)) (hk : P.underlying k = some .string) (h : SMap w b l) {z : Value} (hz : (zeroValue e).run P w = .ok z w) (s : ByteArray) (ok : Bool) :
    (Instr.lookup t (.map (some b)) (.string s) ok).run P w = .ok (if ok then .tuple #[(look l s).getD z, .bool (has l s)] else (look l s).getD z) w := by
  obtain ⟨es, clock, hb, hs, he⟩ := h
  have hkey : IsKey .string (.string s) := trivial
  rcases findNow_spec hkey es.toList 0 (isKeys he) with ⟨h1, h2⟩ | ⟨j, x, h1, h2, h3⟩
  · have h4 := none_of he h2
    have h5 := look_none.2 h4
    cases ok <;> simp [Instr.lookup, run_underlying ht, MapKept.run_getObj_map hb, run_checkKey hk hkey, run_findKey hk h1, Result.andThen, h4, h5, hz]
  · obtain ⟨p, hp, hp1, hp2⟩ := ent_at he j h2
    rw [h3] at hp1
    obtain rfl : s = p.1 := by injection hp1
    have h5 := find_of (nodup_of hs he) hp
    have h4 := (look_some h5).2
    cases ok <;> simp [Instr.lookup, run_underlying ht, MapKept.run_getObj_map hb, run_checkKey hk hkey, run_findKey hk h1, Result.andThen, h4, h5, hp2]
theorem map_put {l : Ents} (hn : (keys l).Nodup) {j : Nat} {p : ByteArray × Value} (hp : l[j]? = some p) (v : Value) : l.map (fun q => if q.1 = p.1 then (p.1, v) else q) = l.set j (p.1, v) := by
  induction l generalizing j with
  | nil => simp
  | cons q l ih =>
    unfold keys at hn
    rw [List.map_cons, List.nodup_cons] at hn
    cases j with
    | zero =>
      simp at hp
      subst hp
      simp
      apply List.ext_getElem?
      intro i
      rw [List.getElem?_map]
      cases hi : l[i]? with
      | none => rfl
      | some a =>
        have hne : a.1 ≠ q.1 := fun e => hn.1 (by rw [← e]; exact List.mem_map_of_mem (List.mem_of_getElem? hi))
        simp [hne]
    | succ j =>
      simp at hp
      have hne : q.1 ≠ p.1 := fun e => hn.1 (by rw [e]; exact List.mem_map_of_mem (List.mem_of_getElem? hp))
      simp [hne]
      exact ih hn.2 hp
theorem kv_modify (es : Array MapEntry) (j : Nat) (key v : Value) : (es.modify j fun x => { x with key := key, val := v }).toList.map kv = (es.toList.map kv).set j (key, v) := by
  apply List.ext_getElem?
  intro i
  rw [List.getElem?_map, List.getElem?_set, Array.getElem?_toList, Array.getElem?_modify, List.getElem?_map, Array.getElem?_toList]
  by_cases hij : j = i
  · subst hij
    by_cases hlt : j < es.size
    · simp [hlt, kv]
    · simp [hlt]
  · simp [hij]
/-- m[s] = v -/
theorem run_put (ht : P.underlying t = some (.map k e)) (hk : P.underlying k = some .string) (h : SMap w b l) (s : ByteArray) (v : Value) :
    ∃ o, (Instr.mapUpdate t (.map (some b)) (.string s) v).run P w = .ok () (setBlock w b o) ∧ SMap (setBlock w b o) b (put l s v) := by
  obtain ⟨es, clock, hb, hs, he⟩ := h
  have hkey : IsKey .string (.string s) := trivial
  rcases findNow_spec hkey es.toList 0 (isKeys he) with ⟨h1, h2⟩ | ⟨j, x, h1, h2, h3⟩
  · have h4 := none_of he h2
    refine ⟨_, by simp [Instr.mapUpdate, run_underlying ht, MapKept.run_getObj_map hb, run_checkKey hk hkey, run_findKey hk h1, MapKept.run_setObj_map _ hb, Result.andThen, setBlock]; rfl, _, _, (MapKept.heap_set hb).1, stamped_push hs h2, ?_⟩
    simp [put, h4, he, kv, enc]
  · obtain ⟨p, hp, hp1, hp2⟩ := ent_at he j h2
    rw [h3] at hp1
    obtain rfl : s = p.1 := by injection hp1
    have h5 := find_of (nodup_of hs he) hp
    have h4 := (look_some h5).2
    have hj : es[j]? = some x := by simpa using h2
    refine ⟨.map (es.modify j fun e => { key := .string p.1, val := v, born := e.born }) clock, by simp [Instr.mapUpdate, run_underlying ht, MapKept.run_getObj_map hb, run_checkKey hk hkey, run_findKey hk h1, hj, h3, run_keyThatStays hkey, MapKept.run_setObj_map _ hb, Result.andThen, setBlock], _, _, (MapKept.heap_set hb).1, stamped_modify hs _ _ (fun _ _ => rfl) (fun e' _ he' => by rw [hj] at he'; cases he'; exact h3.symm), ?_⟩
    rw [kv_modify, he, put, h4, if_pos rfl, map_put (nodup_of hs he) hp, List.map_set]
    rfl
theorem setBlock_other (w : World) (b : Nat) (o : Obj) {i : Nat} (hi : i ≠ b) : (setBlock w b o).heap[i]? = w.heap[i]? := by
  simp [setBlock, Ne.symm hi]
theorem setBlock_grown (w : World) (b : Nat) (o : Obj) : w.grownBy (setBlock w b o) (some b) := ⟨rfl, rfl, rfl, by simp [setBlock], fun i _ hi => setBlock_other w b o (fun e => hi (by rw [e]))⟩
theorem setBlock_size (w : World) (b : Nat) (o : Obj) : (setBlock w b o).heap.size = w.heap.size := by simp [setBlock]
/-! ### the range -/
/-- Block r is an iterator over the map in block b; rest: what is to come. -/
def SRng (w : World) (b r : Nat) (l rest : Ents) : Prop := ∃ es clock since seen c0, w.heap[b]? = some (.map es clock) ∧ Stamped es clock ∧ es.toList.map kv = l.map enc ∧ w.heap[r]? = some (.mapIter (some b) since seen c0) ∧
  (∀ x ∈ es.toList, x.born < since) ∧ (since ≤ c0 ∧ since ≤ clock) ∧ (leftOf es seen).toList.map kv = rest.map enc
theorem SRng.map (h : SRng w b r l rest) : SMap w b l := by
  obtain ⟨es, clock, since, seen, c0, hb, hs, he, _⟩ := h
  exact ⟨es, clock, hb, hs, he⟩
theorem SRng.lt (h : SRng w b r l rest) : r < w.heap.size := by
  obtain ⟨es, clock, since, seen, c0, _, _, _, hr, _⟩ := h
  exact (Array.getElem?_eq_some_iff.1 hr).1
theorem SRng.move {w' : World} (h : SRng w b r l rest) (hm : w'.heap[b]? = w.heap[b]?) (hm' : w'.heap[r]? = w.heap[r]?) : SRng w' b r l rest := by
  obtain ⟨es, clock, since, seen, c0, hb, hs, he, hr, x⟩ := h
  exact ⟨es, clock, since, seen, c0, hm.trans hb, hs, he, hm'.trans hr, x⟩
theorem SRng.grown {w' : World} {row : Option Nat} (h : SRng w b r l rest) (hg : w.grownBy w' row) (hne : some b ≠ row) (hne' : some r ≠ row) : SRng w' b r l rest := h.move (hg.block b h.map.lt hne) (hg.block r h.lt hne')
theorem SRng.below {w' : World} (h : SRng w b r l rest) (hb : Below w.heap.size w w') : SRng w' b r l rest := h.move (hb.block b h.map.lt) (hb.block r h.lt)
theorem SRng.alloc (h : SRng w b r l rest) (o : Obj) : SRng (w.alloc o) b r l rest := h.below ((Below.refl _ _).alloc (Nat.le_refl _) o)
theorem SRng.drew (h : SRng w b r l rest) : SRng w.drew b r l rest := h
theorem SRng.set (h : SRng w b r l rest) (a : Addr) (u : Value) : SRng (w.setCell a u) b r l rest := by
  obtain ⟨es, clock, since, seen, c0, hb, hs, he, hr, x⟩ := h
  refine ⟨es, clock, since, seen, c0, ?_, hs, he, ?_, x⟩
  · by_cases e : a.block = b
    · subst e; simp [World.setCell, Array.getElem?_modify, hb]
    · exact (Below.heap_setCell w a u b (fun q => e q.symm)).trans hb
  · by_cases e : a.block = r
    · subst e; simp [World.setCell, Array.getElem?_modify, hr]
    · exact (Below.heap_setCell w a u r (fun q => e q.symm)).trans hr
theorem run_range (ht : P.underlying t = some (.map k e)) (h : SMap w b l) :
    ∃ c, (Instr.range t (.map (some b))).run P w = .ok (.pointer (some ⟨w.heap.size, 0, none⟩)) (w.alloc (.mapIter (some b) c #[] c)) ∧ SRng (w.alloc (.mapIter (some b) c #[] c)) b w.heap.size l l := by
  have hlt := h.lt
  obtain ⟨es, clock, hb, hs, he⟩ := h
  refine ⟨clock, by simp [Instr.range, run_underlying ht, MapKept.run_getObj_map hb, Result.andThen, newObj, Sem.run], es, clock, clock, #[], clock, ((MapKept.heap_alloc w _).2 b hlt).trans hb, hs, he, (MapKept.heap_alloc w _).1, ((stamped_iff es clock).1 hs).1, ⟨Nat.le_refl _, Nat.le_refl _⟩, ?_⟩
  have : leftOf es #[] = es := by simp [leftOf]
  rw [this]
  exact he
open Classical in
theorem left_push {es : Array MapEntry} {clock : Nat} {seen : Array Nat} (hs : Stamped es clock) {e : MapEntry} (he : e ∈ es.toList) : (leftOf es (seen.push e.born)).toList = (leftOf es seen).toList.filter (fun x => decide (x.key ≠ e.key)) := by
  have hn := ((stamped_iff es clock).1 hs).2
  unfold leftOf
  rw [Array.toList_filter, Array.toList_filter, List.filter_filter]
  apply List.filter_congr
  intro x hx
  have hiff : x.born = e.born ↔ x.key = e.key := by
    constructor
    · intro h
      have : x = e := by
        have h1 := find_born x es.toList hn.1 hx
        have h2 := find_born e es.toList hn.1 he
        rw [h] at h1
        rw [h1] at h2
        injection h2
      rw [this]
    · intro h
      have hp := hn.2
      have : x = e := by
        obtain ⟨i, hi⟩ := List.getElem?_of_mem hx
        obtain ⟨j, hj⟩ := List.getElem?_of_mem he
        rcases Nat.lt_trichotomy i j with hlt | rfl | hlt
        · obtain ⟨hi1, hi2⟩ := List.getElem?_eq_some_iff.1 hi
          obtain ⟨hj1, hj2⟩ := List.getElem?_eq_some_iff.1 hj
          exact absurd h (by have := List.pairwise_iff_getElem.1 hp i j hi1 hj1 hlt; rw [hi2, hj2] at this; exact this)
        · rw [hi] at hj; injection hj
        · obtain ⟨hi1, hi2⟩ := List.getElem?_eq_some_iff.1 hi
          obtain ⟨hj1, hj2⟩ := List.getElem?_eq_some_iff.1 hj
          exact absurd h (by have := List.pairwise_iff_getElem.1 hp j i hj1 hi1 hlt; rw [hi2, hj2] at this; exact fun e => this e.symm)
      rw [this]
  by_cases h : x.key = e.key
  · have := hiff.2 h
    simp [this, h]
  · have : x.born ≠ e.born := fun q => h (hiff.1 q)
    simp [this, h]
open Classical in
theorem map_left {L : List MapEntry} {rest : Ents} (h : L.map kv = rest.map enc) (s : ByteArray) : (L.filter (fun x => decide (x.key ≠ .string s))).map kv = (del rest s).map enc := by
  induction L generalizing rest with
  | nil => cases rest with
    | nil => rfl
    | cons q r => simp at h
  | cons x L ih => cases rest with
    | nil => simp at h
    | cons q r =>
      simp only [List.map_cons, List.cons.injEq] at h
      obtain ⟨h1, h2⟩ := h
      have hk : x.key = .string q.1 := congrArg Prod.fst h1
      unfold del
      rw [List.filter_cons, List.filter_cons]
      by_cases e : q.1 = s
      · have : x.key = .string s := by rw [hk, e]
        simp only [this, e, ne_eq, not_true_eq_false, decide_false, Bool.false_eq_true, if_false]
        exact ih h2
      · have : ¬ x.key = .string s := by rw [hk]; intro q; injection q with q; exact e q
        simp only [this, e, ne_eq, not_false_eq_true, decide_true, if_true, List.map_cons, h1, List.cons.injEq, true_and]
        exact ih h2
/-- A step: nothing is left, or one of what is left comes, whichever the tape says. -/
theorem run_next (h : SRng w b r l rest) (ty : TypeId) (hne : b ≠ r) :
    (rest = [] ∧ (Instr.next (.pointer (some ⟨r, 0, none⟩)) false ty).run P w = .ok (.tuple #[.bool false]) w) ∨
    ∃ p ∈ rest, ∃ w' : World, (Instr.next (.pointer (some ⟨r, 0, none⟩)) false ty).run P w = .ok (.tuple #[.bool true, .string p.1, p.2]) w' ∧ SRng w' b r l (del rest p.1) ∧ w.grownBy w' (some r) ∧ w'.heap.size = w.heap.size ∧
      (Instr.entry (.pointer (some ⟨r, 0, none⟩))).run P w' = .ok (.tuple #[.string p.1, p.2]) w' := by
  obtain ⟨es, clock, since, seen, c0, hb, hs, he, hr, hold, hsc, hl⟩ := h
  rcases run_next_at (P := P) w ty r b since c0 seen es clock hr hb hold hsc.1 with ⟨h0, hrun⟩ | ⟨x, hx, w1, hw1, hrun⟩
  · left
    refine ⟨?_, hrun⟩
    have : rest.length = 0 := by have := congrArg List.length hl; simp at this; omega
    exact List.eq_nil_of_length_eq_zero this
  · right
    have hkv : kv x ∈ rest.map enc := by rw [← hl]; exact List.mem_map_of_mem hx
    obtain ⟨p, hp, hpe⟩ := List.mem_map.1 hkv
    have hk1 : x.key = .string p.1 := (congrArg Prod.fst hpe).symm
    have hk2 : x.val = p.2 := (congrArg Prod.snd hpe).symm
    have hxe : x ∈ es.toList := by simp [leftOf] at hx ⊢; exact hx.1
    have hr1 : w1.heap[r]? = some (.mapIter (some b) since seen c0) := by rcases hw1 with rfl | rfl <;> exact hr
    have hb1 : w1.heap[b]? = some (.map es clock) := by rcases hw1 with rfl | rfl <;> exact hb
    have hlt : r < w1.heap.size := (Array.getElem?_eq_some_iff.1 hr1).1
    have hg1 : w.grownBy w1 none := by rcases hw1 with rfl | rfl <;> exact ⟨rfl, rfl, rfl, Nat.le_refl _, fun _ _ _ => rfl⟩
    have hb2 : (setBlock w1 r (.mapIter (some b) since (seen.push x.born) clock)).heap[b]? = some (.map es clock) := by
      simp only [setBlock]
      rw [Array.getElem?_setIfInBounds_ne (Ne.symm hne)]
      exact hb1
    have hr2 : (setBlock w1 r (.mapIter (some b) since (seen.push x.born) clock)).heap[r]? = some (.mapIter (some b) since (seen.push x.born) clock) := by
      simp [setBlock, hlt]
    refine ⟨p, hp, _, by rw [hrun, hk1, hk2], ⟨es, clock, since, seen.push x.born, clock, hb2, hs, he, hr2, hold, ⟨hsc.2, hsc.2⟩, ?_⟩, ?_, ?_, ?_⟩
    · rw [left_push hs hxe, hk1]
      exact map_left hl p.1
    · exact ⟨hg1.os, hg1.tape, hg1.output, by rw [setBlock_size]; exact hg1.size, fun i hi hne' => ((setBlock_grown w1 r _).block i (Nat.lt_of_lt_of_le hi hg1.size) hne').trans (hg1.block i hi (by simp))⟩
    · rw [setBlock_size]
      rcases hw1 with rfl | rfl <;> rfl
    · rw [run_entry_at _ r b since seen es clock x hr2 hb2 hxe ((stamped_iff es clock).1 hs).2.1, hk1, hk2]

/-! ### at the operations, for the walk; m: the entries, enc: an element's cell -/
variable {β : Type} {cenc : β → Value} {m rm : List (ByteArray × β)} {ops : Array Oper} {os : List Oper} {o : Oper} {a : Act} {Q : Exit → Act → World → Prop}
def TMap (w : World) (b : Nat) (cenc : β → Value) (m : List (ByteArray × β)) : Prop := SMap w b (mapE cenc m)
def TRng (w : World) (b r : Nat) (cenc : β → Value) (m rm : List (ByteArray × β)) : Prop := SRng w b r (mapE cenc m) (mapE cenc rm)
theorem TMap.grown {w' : World} {row : Option Nat} (h : TMap w b cenc m) (hg : w.grownBy w' row) (hne : some b ≠ row) : TMap w' b cenc m := SMap.grown h hg hne
theorem TMap.below {w' : World} (h : TMap w b cenc m) (hb : Below w.heap.size w w') : TMap w' b cenc m := SMap.below h hb
theorem TMap.nodup (h : TMap w b cenc m) : (keys m).Nodup := by rw [← keys_mapE cenc m]; exact SMap.nodup h
theorem TMap.lt (h : TMap w b cenc m) : b < w.heap.size := SMap.lt h
theorem TMap.made (w : World) (cenc : β → Value) : TMap (w.alloc (.map #[] 0)) w.heap.size cenc [] := SMap.made w
theorem TRng.grown {w' : World} {row : Option Nat} (h : TRng w b r cenc m rm) (hg : w.grownBy w' row) (hne : some b ≠ row) (hne' : some r ≠ row) : TRng w' b r cenc m rm := SRng.grown h hg hne hne'
theorem TRng.below {w' : World} (h : TRng w b r cenc m rm) (hb : Below w.heap.size w w') : TRng w' b r cenc m rm := SRng.below h hb
theorem TRng.map (h : TRng w b r cenc m rm) : TMap w b cenc m := SRng.map h
theorem TRng.lt (h : TRng w b r cenc m rm) : r < w.heap.size := SRng.lt h
theorem TRng.left_eq (h : TRng w b r cenc m rm) : w.rangeLeft b r = rm.length := by
  obtain ⟨es, clock, since, seen, c0, hb, _, _, hr, _, _, hl⟩ := h
  have := congrArg List.length hl
  simp [mapE] at this
  simp [World.rangeLeft, hb, hr, this]
theorem TRng.sub (h : TRng w b r cenc m rm) {p : ByteArray × β} (hp : p ∈ rm) : p.1 ∈ keys m := by
  obtain ⟨es, clock, since, seen, c0, hb, _, he, hr, _, _, hl⟩ := h
  have h1 : (p.1, cenc p.2) ∈ mapE cenc rm := List.mem_map.2 ⟨p, hp, rfl⟩
  have h2 : enc (p.1, cenc p.2) ∈ (leftOf es seen).toList.map kv := by rw [hl]; exact List.mem_map_of_mem h1
  obtain ⟨x, hx, hxe⟩ := List.mem_map.1 h2
  have hx2 : x ∈ es.toList := by simp [leftOf] at hx ⊢; exact hx.1
  have h3 : kv x ∈ (mapE cenc m).map enc := by rw [← he]; exact List.mem_map_of_mem hx2
  obtain ⟨q, hq, hqe⟩ := List.mem_map.1 h3
  have h4 : q.1 = p.1 := by
    have := (congrArg Prod.fst hqe).trans (congrArg Prod.fst hxe)
    simpa [enc] using this
  rw [← h4, ← keys_mapE cenc m]
  exact List.mem_map_of_mem hq
theorem TRng.nodup (h : TRng w b r cenc m rm) : (keys rm).Nodup := by
  obtain ⟨es, clock, since, seen, c0, hb, hs, he, hr, _, _, hl⟩ := h
  rw [← keys_mapE cenc rm]
  have h3 := ((stamped_iff es clock).1 hs).2.2
  have h4 : ((leftOf es seen).toList).Pairwise (fun x y => x.key ≠ y.key) := by
    unfold leftOf
    rw [Array.toList_filter]
    exact h3.sublist List.filter_sublist
  have h5 : ((leftOf es seen).toList.map kv).Pairwise (fun x y => x.1 ≠ y.1) := List.pairwise_map.2 h4
  rw [hl] at h5
  have h6 := List.pairwise_map.1 h5
  unfold keys List.Nodup
  rw [List.pairwise_map]
  exact h6.imp (fun h e => h (by simp [enc, e]))
theorem wp_put (hg : o.guard = none) (mo xo vo : Operand) (hop : o.op = Op.mapUpdate t mo xo vo) (ht : P.underlying t = some (.map k e)) (hk : P.underlying k = some .string)
    (hm : a.eval mo = .map (some b)) (h : TMap w b cenc m) (s : ByteArray) (v : β) (hx : a.eval xo = .string s) (hv : a.eval vo = cenc v) {w0 : World} {B : Nat} (HB : Below B w0 w) (hB : B ≤ b)
    (hK : ∀ w', TMap w' b cenc (put m s v) → Below B w0 w' → w.grownBy w' (some b) → w'.heap.size = w.heap.size → wpList P ops Q os (a.put o.dst undef) w') : wpList P ops Q (o :: os) a w := by
  refine wpList_plain hg fun K' hK' => ?_
  obtain ⟨ob, hrun, hs⟩ := run_put (P := P) ht hk h s (cenc v)
  rw [put_mapE] at hs
  unfold Oper.wp
  simp [execOp, hop, hm, hx, hv, hrun, Result.andThen]
  exact hK' _ _ (hK _ hs (HB.grown (setBlock_grown w b ob) (Nat.le_trans hB (Nat.le_of_lt h.lt)) (fun j hj => by cases hj; exact hB)) (setBlock_grown w b ob) (setBlock_size w b ob))
theorem wp_look (hg : o.guard = none) (mo xo : Operand) (ok : Bool) (hop : o.op = Op.lookup t mo xo ok) (ht : P.underlying t = some (.map k e)) (hk : P.underlying k = some .string)
    (hm : a.eval mo = .map (some b)) (h : TMap w b cenc m) (s : ByteArray) (hx : a.eval xo = .string s) {z : Value} (hz : (zeroValue e).run P w = .ok z w)
    (hK : wpList P ops Q os (a.put o.dst (if ok then .tuple #[((look m s).map cenc).getD z, .bool (has m s)] else ((look m s).map cenc).getD z)) w) : wpList P ops Q (o :: os) a w := by
  refine wpList_plain hg fun K' hK' => ?_
  have hrun := run_look (P := P) ht hk h hz s ok
  rw [look_mapE, has_mapE] at hrun
  unfold Oper.wp
  simp [execOp, hop, hm, hx, hrun, Result.andThen]
  exact hK' _ _ (by cases ok <;> exact hK)
theorem wp_range (hg : o.guard = none) (mo : Operand) (hop : o.op = Op.range t mo) (ht : P.underlying t = some (.map k e))
    (hm : a.eval mo = .map (some b)) (h : TMap w b cenc m) {w0 : World} {B : Nat} (HB : Below B w0 w) (hB : B ≤ w.heap.size)
    (hK : ∀ w' r, r = w.heap.size → TRng w' b r cenc m m → Below B w0 w' → w.grownBy w' none → w'.heap.size = w.heap.size + 1 → wpList P ops Q os (a.put o.dst (.pointer (some ⟨r, 0, none⟩))) w') : wpList P ops Q (o :: os) a w := by
  refine wpList_plain hg fun K' hK' => ?_
  obtain ⟨c, hrun, hs⟩ := run_range (P := P) ht h
  unfold Oper.wp
  simp only [execOp, hop, hm, Sem.run_bind, hrun, Result.andThen]
  exact hK' _ _ (hK _ _ rfl hs (HB.alloc hB _) (World.grownBy_alloc w _ none) (by simp))
theorem wp_next (hg : o.guard = none) (it : Operand) (hop : o.op = Op.next it false) (hit : a.eval it = .pointer (some ⟨r, 0, none⟩)) (hne : b ≠ r) (h : TRng w b r cenc m rm) {w0 : World} {B : Nat} (HB : Below B w0 w) (hB : B ≤ r)
    (hDone : rm = [] → wpList P ops Q os (a.put o.dst (.tuple #[.bool false])) w)
    (hMore : ∀ pk pv w', (pk, pv) ∈ rm → TRng w' b r cenc m (del rm pk) → Below B w0 w' → w.grownBy w' (some r) → w'.heap.size = w.heap.size → (Instr.entry (.pointer (some ⟨r, 0, none⟩))).run P w' = .ok (.tuple #[.string pk, cenc pv]) w' →
      wpList P ops Q os (a.put o.dst (.tuple #[.bool true, .string pk, cenc pv])) w') : wpList P ops Q (o :: os) a w := by
  refine wpList_plain hg fun K' hK' => ?_
  unfold Oper.wp
  rcases run_next (P := P) h o.type hne with ⟨h0, hrun⟩ | ⟨p, hp, w', hrun, h1, h2, h3, h4⟩
  · have : rm = [] := by simpa [mapE] using h0
    simp only [execOp, hop, hit, Sem.run_bind, hrun, Result.andThen]
    exact hK' _ _ (hDone this)
  · obtain ⟨q, hq, rfl⟩ := List.mem_map.1 hp
    rw [del_mapE] at h1
    simp only [execOp, hop, hit, Sem.run_bind, hrun, Result.andThen]
    exact hK' _ _ (hMore q.1 q.2 w' hq h1 (HB.grown h2 (Nat.le_trans hB (Nat.le_of_lt h.lt)) (fun j hj => by cases hj; exact hB)) h2 h3 h4)
end
end Go.Proofs.YtiamiagjkfioiaaGreatDoor.SM
