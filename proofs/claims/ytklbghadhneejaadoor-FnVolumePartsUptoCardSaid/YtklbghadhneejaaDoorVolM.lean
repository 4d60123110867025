/- The walk of format.ParseVolume over texts that its plain run goes through. -/
import Derived.Test.YtklbghadhneejaaDoorVolB
import Derived.Laws.RangeString
import Derived.Laws.RangeAny
namespace Go.Proofs.YtklbghadhneejaaDoor.V
set_option linter.unusedVariables false
set_option linter.unusedSimpArgs false
set_option linter.unusedSectionVars false
open Go.RowKit Go.Proofs.YtklbghadhneejaaDoorW.PrintWords Go.Proofs.YtklbghadhneejaaDoorW.PrintLast Go.Proofs.YtklbghadhneejaaDoor.PX

/-- A part that is whole. -/
def popV (v : Vol) (c : UInt8) (b : List UInt8) : Option Vol :=
  if v.src = ⟨#[]⟩ ∨ v.tgt = ⟨#[]⟩ then some (popF v (c.toNat : Int) ⟨b.toArray⟩) else if c = 0 then some ((splitC (⟨b.toArray⟩ : ByteArray).size ⟨b.toArray⟩).foldl optStep v) else none
/-- The plain run over what is left. -/
def run (v : Vol) (b : List UInt8) : List UInt8 → Option Vol
  | [] => some v
  | c :: cs => if 128 ≤ c.toNat ∨ c = 36 ∨ c = 125 then none else if c = 58 ∨ c = 0 then (if b = [] ∨ (c = 58 ∧ b.length = 1) then none else (popV v c b).bind (fun v' => run v' [] cs)) else run v (b ++ [c]) cs
def encR (c : UInt8) : Value := .int .i32 (c.toNat : Int)
abbrev kR : Kd UInt8 := Kd.scalar encR (fun _ => rfl)
theorem infoR : (Tryd.prog.info? 21).map (fun i => (i.zero, i.size, i.bytes)) = some (some (.int .i32 0), 1, 4) := by kernel_rfl
theorem encode_ascii (c : UInt8) (h : c.toNat < 128) : Utf8.encode (c.toNat : Int) = ⟨#[c]⟩ := by
  have hv : Utf8.valid (c.toNat : Int) = true := by simp [Utf8.valid]; omega
  unfold Utf8.encode
  simp only [hv, if_true, Int.toNat_natCast]
  rw [if_pos (by omega)]
  simp
theorem runesBytes_ascii : ∀ (b : List UInt8), (∀ c ∈ b, c.toNat < 128) → runesBytes (b.map (fun c => (c.toNat : Int))) = ⟨b.toArray⟩ := by
  suffices ∀ (b : List UInt8) (r : ByteArray), (∀ c ∈ b, c.toNat < 128) → (b.map (fun c => (c.toNat : Int))).foldl (fun r n => r ++ Utf8.encode n) r = r ++ (⟨b.toArray⟩ : ByteArray) by
    intro b h
    unfold runesBytes
    rw [this b _ h]
    simp
  intro b
  induction b with
  | nil => intro r _; simp; exact (ByteArray.append_empty).symm
  | cons c b ih =>
    intro r h
    rw [List.map_cons, List.foldl_cons, ih _ (fun c hc => h c (by simp [hc])), encode_ascii c (h c (by simp))]
    apply ByteArray.ext
    simp [ByteArray.data_append]
theorem runes_text {w : World} {base : Nat} {v : Value} {b : List UInt8} (h : kR.R 21 w base (fun _ => True) v b) (hne : b ≠ []) (ha : ∀ c ∈ b, c.toNat < 128) : ∃ A c, v = .slice A b.length c ∧ (convert 61 9 v).run Tryd.prog w = .ok (.string ⟨b.toArray⟩) w := by
  have ho := Kd.own_of_R h
  have hn : 0 < b.length := List.length_pos_iff.2 hne
  rcases ho.2 with ⟨_, h0⟩ | ⟨g, cap, cur, rfl, _, hb, hnc, _, hz, ht⟩
  · omega
  · refine ⟨_, _, rfl, ?_⟩
    have hr := run_convert_runes (P := Tryd.prog) w 61 9 21 ⟨g, 0, none⟩ b.length cap (b.map (fun c => (c.toNat : Int))) (by simp) Tryd.underlying61 Tryd.underlying21 Tryd.underlying9 (fun j hj => by
      have hj' : j < b.length := by simpa using hj
      have h1 : (cur.toList.take (b.length * 1))[j]? = (encs encR b)[j]? := by rw [ht]
      rw [List.getElem?_take_of_lt (by omega), Array.getElem?_toList] at h1
      have h2 : (encs encR b)[j]? = some (encR b[j]) := by simp [encs, hj']
      have h3 : w.cell? ⟨g, j, none⟩ = some (encR b[j]) := by rw [blk_cell hb j, h1, h2]
      have h4 : (⟨g, 0, none⟩ : Addr).add j = ⟨g, j, none⟩ := by simp [Addr.add]; intro h; exact h.symm
      rw [h4, h3]
      simp [encR, List.getD_eq_getElem?_getD, hj'])
    rw [hr]
    have e : (b.map (fun c => (c.toNat : Int))).take b.length = b.map (fun c => (c.toNat : Int)) := by rw [List.take_of_length_le (by simp)]
    rw [e, runesBytes_ascii b ha]
def setBk (w : World) (b : Nat) (o : Obj) : World := { w with heap := w.heap.setIfInBounds b o }
theorem setBk_grown (w : World) (b : Nat) (o : Obj) : w.grownBy (setBk w b o) (some b) := ⟨rfl, rfl, rfl, by simp [setBk], fun i _ hi => by
  have : b ≠ i := fun e => hi (by rw [e])
  simp [setBk, Array.getElem?_setIfInBounds_ne this]⟩
theorem setBk_at (w : World) (b : Nat) (o : Obj) (h : b < w.heap.size) : (setBk w b o).heap[b]? = some o := by simp [setBk, h]
theorem next_ascii_at {P : Program} (w : World) (it : Nat) (s : ByteArray) (pos : Nat) (ty : TypeId) (hb : w.heap[it]? = some (.stringIter s pos)) (h : pos < s.size) (ha : (s[pos]'h).toNat < 128) :
    (Instr.next (.pointer (some ⟨it, 0, none⟩)) true ty).run P w = .ok (.tuple #[.bool true, .int .i64 pos, .int .i32 (s[pos]'h).toNat]) (setBk w it (.stringIter s (pos + 1))) := by
  simp only [Instr.next, getObj, setObj, Sem.run_bind, Sem.run, hb, Result.andThen, h, if_true, decode_ascii s pos h ha]
  simp [goInt, Sem.run, hb, setBk]
theorem next_end_at {P : Program} (w : World) (it : Nat) (s : ByteArray) (pos : Nat) (ty : TypeId) (hb : w.heap[it]? = some (.stringIter s pos)) (h : ¬ pos < s.size) :
    (Instr.next (.pointer (some ⟨it, 0, none⟩)) true ty).run P w = .ok (.tuple #[.bool false]) w := by
  simp [Instr.next, getObj, Sem.run, hb, h]
theorem VolAt.kept {w w' : World} {base bV : Nat} {v : Vol} {pb pv : Option Nat} (h : VolAt w base bV v pb pv) (mv : ∀ (g : Nat) (cs : Array Value) (t : TypeId), t ≠ 21 → w.heap[g]? = some (.cells cs t (0, 0)) → w'.heap[g]? = some (.cells cs t (0, 0))) : VolAt w' base bV v pb pv := by
  obtain ⟨h1, h2, h3, h4⟩ := h
  refine ⟨h1, mv _ _ _ (by decide) h2, ?_, ?_⟩
  · unfold BindAt at *
    split at h3
    · exact h3
    · obtain ⟨bb, e, hb1, hb2, hb3⟩ := h3; exact ⟨bb, e, hb1, hb2, mv _ _ _ (by decide) hb3⟩
  · unfold OwnAt at *
    split at h4
    · exact h4
    · obtain ⟨bb, e, hb1, hb2, hb3⟩ := h4; exact ⟨bb, e, hb1, hb2, mv _ _ _ (by decide) hb3⟩
def vol0 : Vol := ⟨⟨#[]⟩, ⟨#[]⟩, ⟨#[]⟩, false, none, none⟩
theorem iter_keep {w w' : World} {it : Nat} {s : ByteArray} {p : Nat} (hit : w.heap[it]? = some (.stringIter s p)) (hg : w.grownBy w' (some it)) {g : Nat} {cs : Array Value} {t : TypeId} {k : Nat × Nat} (h : w.heap[g]? = some (.cells cs t k)) : w'.heap[g]? = some (.cells cs t k) :=
  (hg.block g (Array.getElem?_eq_some_iff.1 h).1 (by intro e; injection e with e; subst e; rw [hit] at h; cases h)).trans h
theorem own_keep {w w' : World} {base : Nat} {v : Value} {b : List UInt8} (h : kR.R 21 w base (fun _ => True) v b) (hg : w.grownBy w' v.ownBlock) {g : Nat} {o : Obj} (hne : ∀ cs, o ≠ .cells cs 21 (0, 0)) (ho : w.heap[g]? = some o) : w'.heap[g]? = some o :=
  (hg.block g (Array.getElem?_eq_some_iff.1 ho).1 (by
    intro e
    obtain ⟨cs, hc⟩ := Kd.R_typed h g e.symm
    rw [hc] at ho
    injection ho with ho
    exact hne cs ho.symm)).trans ho
theorem load_vol (w : World) (bR : Nat) (a b d : ByteArray) (e : Bool) (q1 q2 : Option Addr) (hc : w.heap[bR]? = some (.cells #[.string a, .string b, .string d, .bool e, .string ⟨#[]⟩, .pointer q1, .pointer q2, .pointer none] 46 (0, 0))) :
    (loadVar 46 ⟨bR, 0, none⟩).run Tryd.prog w = .ok (.agg #[.string a, .string b, .string d, .bool e, .string ⟨#[]⟩, .pointer q1, .pointer q2, .pointer none]) w := by
  have x0 := (blk_cell hc 0).trans (show _ = some (Value.string a) from rfl)
  have x1 := (blk_cell hc 1).trans (show _ = some (Value.string b) from rfl)
  have x2 := (blk_cell hc 2).trans (show _ = some (Value.string d) from rfl)
  have x3 := (blk_cell hc 3).trans (show _ = some (Value.bool e) from rfl)
  have x4 := (blk_cell hc 4).trans (show _ = some (Value.string ⟨#[]⟩) from rfl)
  have x5 := (blk_cell hc 5).trans (show _ = some (Value.pointer q1) from rfl)
  have x6 := (blk_cell hc 6).trans (show _ = some (Value.pointer q2) from rfl)
  have x7 := (blk_cell hc 7).trans (show _ = some (Value.pointer none) from rfl)
  clear hc
  go_simp
theorem results_vol (tmps : Array Value) (w : World) (bR : Nat) {a b d : ByteArray} {e : Bool} {q1 q2 : Option Addr} (h2 : tmps.getD 2 undef = .pointer (some ⟨bR, 0, none⟩)) (h3 : tmps.getD 3 undef = .nilIface) (hc : w.heap[bR]? = some (.cells #[.string a, .string b, .string d, .bool e, .string ⟨#[]⟩, .pointer q1, .pointer q2, .pointer none] 46 (0, 0))) :
    (results Tryd.f16 tmps).run Tryd.prog w = .ok (.tuple #[.agg #[.string a, .string b, .string d, .bool e, .string ⟨#[]⟩, .pointer q1, .pointer q2, .pointer none], .nilIface]) w := by
  have hl := load_vol w bR a b d e q1 q2 hc
  rw [results_cell_tmp rfl, h2, h3]
  have ha : (asAddr (.pointer (some ⟨bR, 0, none⟩))).run Tryd.prog w = .ok ⟨bR, 0, none⟩ w := rfl
  rw [ha]
  simp only [Result.andThen, hl]
theorem BindAt.fin {w : World} {base bV bR : Nat} {x : Option (ByteArray × ByteArray × Bool)} {pb : Option Nat} (h : BindAt w base bV x pb) (hR : bR < base) (i : Nat) (u : Value) : BindAt (w.setCell ⟨bR, i, none⟩ u) base bV x pb := by
  unfold BindAt at *
  split at h
  · exact h
  · obtain ⟨bb, e, h1, h2, h3⟩ := h; exact ⟨bb, e, h1, h2, other_set (by omega) h3⟩
theorem OwnAt.fin {w : World} {base bV bR : Nat} {x : Option Bool} {pv : Option Nat} (h : OwnAt w base bV x pv) (hR : bR < base) (i : Nat) (u : Value) : OwnAt (w.setCell ⟨bR, i, none⟩ u) base bV x pv := by
  unfold OwnAt at *
  split at h
  · exact h
  · obtain ⟨bb, e, h1, h2, h3⟩ := h; exact ⟨bb, e, h1, h2, other_set (by omega) h3⟩
theorem BindAt.lower {w : World} {base base' bV : Nat} {x : Option (ByteArray × ByteArray × Bool)} {pb : Option Nat} (h : BindAt w base bV x pb) (hb : base' ≤ base) : BindAt w base' bV x pb := by
  unfold BindAt at *
  split at h
  · exact h
  · obtain ⟨bb, e, h1, h2, h3⟩ := h; exact ⟨bb, e, Nat.le_trans hb h1, h2, h3⟩
theorem OwnAt.lower {w : World} {base base' bV : Nat} {x : Option Bool} {pv : Option Nat} (h : OwnAt w base bV x pv) (hb : base' ≤ base) : OwnAt w base' bV x pv := by
  unfold OwnAt at *
  split at h
  · exact h
  · obtain ⟨bb, e, h1, h2, h3⟩ := h; exact ⟨bb, e, Nat.le_trans hb h1, h2, h3⟩
/-- The relation of ParseVolume's loop. -/
structure ParseAt (wA : World) (bV it : Nat) (t : ByteArray) (vF : Vol) (wr : World) (v5 : Value) (pos : Nat) (v : Vol) (b : List UInt8) : Prop where
  vol : ∃ pb pv, VolAt wr wA.heap.size bV v pb pv
  row : kR.R 21 wr wA.heap.size (fun _ => True) v5 b
  iter : wr.heap[it]? = some (.stringIter t pos)
  run : V.run v b (t.data.toList.drop pos) = some vF
  ascii : ∀ c ∈ b, c.toNat < 128
  len : b.length ≤ pos
  bel : Below wA.heap.size wA wr
theorem iterPos_at {w : World} {it : Nat} {s : ByteArray} {p : Nat} (h : w.heap[it]? = some (.stringIter s p)) : w.iterPos it = p := by simp [World.iterPos, h]
theorem run_cons {v vF : Vol} {b cs : List UInt8} {c : UInt8} (h : run v b (c :: cs) = some vF) : (c.toNat < 128 ∧ c ≠ 36 ∧ c ≠ 125) ∧ (((c ≠ 58 ∧ c ≠ 0) ∧ run v (b ++ [c]) cs = some vF) ∨ ((c = 58 ∨ c = 0) ∧ b ≠ [] ∧ ¬ (c = 58 ∧ b.length = 1) ∧ ∃ v', popV v c b = some v' ∧ run v' [] cs = some vF)) := by
  rw [run] at h
  split at h
  · cases h
  · rename_i h1
    refine ⟨⟨Nat.lt_of_not_le (fun e => h1 (.inl e)), fun e => h1 (.inr (.inl e)), fun e => h1 (.inr (.inr e))⟩, ?_⟩
    split at h
    · rename_i h2
      split at h
      · cases h
      · rename_i h3
        obtain ⟨v', h4, h5⟩ := Option.bind_eq_some_iff.1 h
        exact .inr ⟨h2, fun e => h3 (.inl e), fun e => h3 (.inr e), v', h4, h5⟩
    · rename_i h2
      exact .inl ⟨⟨fun e => h2 (.inl e), fun e => h2 (.inr e)⟩, h⟩
theorem u8_ne {c d : UInt8} (h : c ≠ d) : ¬ ((c.toNat : Int) = (d.toNat : Int)) := fun e => h (UInt8.toNat_inj.1 (by omega))
set_option maxHeartbeats 8000000 in
set_option maxRecDepth 100000 in
theorem format_ParseVolume (s : ByteArray) (vF : Vol) (p : Bool) (w : World) (h3 : 3 ≤ s.size) (hs : s.size ≤ 4294967294) (hrun : run vol0 [] ((s ++ (⟨#[0]⟩ : ByteArray)).data.toList) = some vF) (hp : IsPath vF.src p) (hps : vF.src.size ≤ 4294967296) :
    Calls Tryd.prog 16 #[.string s] w fun e w' => ∃ pb pv, e = .returned (.tuple #[.agg (volCells (popT vF p) pb pv), .nilIface]) ∧ (∃ bV, BindAt w' w.heap.size bV (popT vF p).bind pb ∧ OwnAt w' w.heap.size bV (popT vF p).own pv) ∧ Below w.heap.size w w' := by
  obtain ⟨t, ht⟩ : ∃ t, t = s ++ (⟨#[0]⟩ : ByteArray) := ⟨_, rfl⟩
  have htz : t.size = s.size + 1 := by rw [ht, ByteArray.size_append]; rfl
  rw [← ht] at hrun
  have hc0 : ((s.size : Int) == 0) = false := beq_false_of_ne (by omega)
  have hc1 : ((s.size : Int) == 1) = false := beq_false_of_ne (by omega)
  have hc2 : ((s.size : Int) == 2) = false := beq_false_of_ne (by omega)
  have hsz : ¬ 9223372036854775807 < s.size + 1 := by omega
  obtain ⟨wA, hwA⟩ : ∃ wA, wA = w.alloc (.cells (volCells vol0 none none) 46) := ⟨_, rfl⟩
  have hAz : wA.heap.size = w.heap.size + 1 := by rw [hwA]; simp
  have hstart : ParseAt wA (w.heap.size + 1) (w.heap.size + 1 + 1) t vF (((w.alloc (.cells (volCells vol0 none none) 46)).alloc (.cells (volCells vol0 none none) 46)).iter t 0) (.slice none 0 0) 0 vol0 [] := by
    have e1 := heap_alloc_new wA (.cells (volCells vol0 none none) 46)
    have e2 := World.iter_heap (wA.alloc (.cells (volCells vol0 none none) 46)) t 0
    rw [← hwA]
    rw [hAz] at e1
    have e3 : (wA.alloc (.cells (volCells vol0 none none) 46)).heap.size = w.heap.size + 1 + 1 := by simp [hAz]
    rw [e3] at e2
    exact ⟨⟨none, none, by rw [hAz]; exact Nat.le_refl _, alloc_keep e1, rfl, rfl⟩, Kd.R_nil _ _ _ _ _, e2, hrun, fun c hc => by simp at hc, Nat.le_refl _, ((Below.refl _ _).alloc (Nat.le_refl _) _).alloc (by simp) _⟩
  have HST := Aside0.mk hstart
  have HW := Lib.hid hwA
  have HT := Lib.hid ht
  clear hrun hstart hwA ht
  go_enter Tryd.func16, Tryd.ntmps16
  go_wp2
  rw [← HT.out]
  go_loopw [5, 6] (fun v5 v6 wr => ∃ (pos : Nat) (v : Vol) (b : List UInt8), v6 = .int .i64 0 ∧ pos ≤ t.size ∧ Aside0 (ParseAt wA (w.heap.size + 1) (w.heap.size + 1 + 1) t vF wr v5 pos v b)) (fun _ _ wr => t.size - wr.iterPos (w.heap.size + 1 + 1))
  case atStart => exact ⟨0, vol0, [], rfl, Nat.zero_le _, HST⟩
  case round =>
    obtain ⟨pos, v, b, rfl, hps0, HA⟩ := hrel
    obtain ⟨pb, pv, hv⟩ := HA.out.vol
    have hit := HA.out.iter
    have HP0 := Lib.hid (iterPos_at hit)
    by_cases hpos : pos < t.size
    · obtain ⟨c, hc⟩ : ∃ c, c = t.data.toList[pos]'(by rw [len_data]; exact hpos) := ⟨_, rfl⟩
      have hrc := HA.out.run
      rw [List.drop_eq_getElem_cons (by rw [len_data]; exact hpos), ← hc] at hrc
      obtain ⟨⟨k1, k2, k3⟩, hcase⟩ := run_cons hrc
      have hct : ((t[pos]'hpos).toNat : Int) = (c.toNat : Int) := by rw [← bt_get! t pos hpos, hc, bt_eq t pos (by rw [len_data]; exact hpos)]
      have hlt : (t[pos]'hpos).toNat < 128 := by omega
      obtain ⟨w2, hw2⟩ : ∃ w2, w2 = setBk wr (w.heap.size + 1 + 1) (.stringIter t (pos + 1)) := ⟨_, rfl⟩
      have hnx : ∀ ty, (Instr.next (.pointer (some ⟨w.heap.size + 1 + 1, 0, none⟩)) true ty).run Tryd.prog wr = .ok (.tuple #[.bool true, .int .i64 pos, .int .i32 (c.toNat : Int)]) w2 := fun ty => by
        rw [next_ascii_at wr _ t pos ty hit hpos hlt, hct, hw2]
      have hg2 : wr.grownBy w2 (some (w.heap.size + 1 + 1)) := by rw [hw2]; exact setBk_grown _ _ _
      have HI2 := Aside0.mk (show w2.heap[w.heap.size + 1 + 1]? = some (.stringIter t (pos + 1)) by rw [hw2]; exact setBk_at _ _ _ (Array.getElem?_eq_some_iff.1 hit).1)
      have HV2 := Aside0.mk (hv.kept (fun g cs ty _ h => iter_keep hit hg2 h))
      have HR2 := Aside0.mk (show kR.R 21 w2 wA.heap.size (fun _ => True) u5 b from Kd.R_mono (Kd.R_grown (Kd.R_bound HA.out.row) hg2 (fun k hk e => by
        obtain ⟨_, _, _, q, _, cells, hcc⟩ := hk
        injection e with e
        subst e
        rw [hit] at hcc
        cases hcc)) (fun _ _ => trivial))
      have HB2 := Aside0.mk (HA.out.bel.grown hg2 HA.out.bel.size (fun k hk => by injection hk with hk; omega))
      have h36 : ((c.toNat : Int) == 36) = false := beq_false_of_ne (u8_ne (d := 36) k2)
      have h125 : ((c.toNat : Int) == 125) = false := beq_false_of_ne (u8_ne (d := 125) k3)
      have hbl := HA.out.len
      have HAS := Aside0.mk HA.out.ascii
      have hgs := HB2.out.size
      clear hit hv hrc hct hlt hw2 hg2 k2 k3
      rcases hcase with ⟨⟨n58, n0⟩, hr2⟩ | ⟨hsep, hbne, hdr, v', hpv, hr2⟩
      · have h58 : ((c.toNat : Int) == 58) = false := beq_false_of_ne (u8_ne (d := 58) n58)
        have h0 : ((c.toNat : Int) == 0) = false := beq_false_of_ne (u8_ne (d := 0) n0)
        have HN58 := Lib.hid (u8_ne (d := 58) n58)
        have HRN := Lib.hid hr2
        have HAN := Lib.hid (show ∀ x ∈ b ++ [c], x.toNat < 128 from fun x hx => (List.mem_append.1 hx).elim (HAS.out x) (fun h => by rw [List.mem_singleton.1 h]; exact k1))
        clear n58 n0 hr2 hc
        obtain ⟨A5, c5, rfl⟩ := Kd.R_slice HR2.out
        go_wp2_with (first
          | (go_at_call 21; refine (format_isWindowsDrive_no A5 b.length c5 (c.toNat : Int) _ (.inl HN58.out)).mono ?_; rintro e w3 ⟨rfl, rfl⟩)
          | (at_builtin; refine Kd.R_append kR (w0 := wA) wA.heap.size rfl _ _ 61 21 (.int .i32 0) 4 rfl Tryd.underlying61 infoR rfl (by decide) (by decide) _ b c [.int .i32 (c.toNat : Int)] (fun _ => True) (fun _ => False) rfl rfl ?hp (fun _ h => h.elim) (fun _ _ => trivial) ?hO ?hB ?hS ?hL ?_; (case hp => rfl); (case hO => exact HR2.out); (case hB => exact HB2.out); (case hS => exact HB2.out.size); (case hL => omega); intro v3 w3 ho3 hb3 hg3 hat3; have HO3 := Aside0.mk ho3; have HB3 := Aside0.mk hb3; have HI3 := Aside0.mk (own_keep HR2.out hg3 (fun cs e => by cases e) HI2.out); have HV3 := Aside0.mk (HV2.out.kept (fun g cs ty hne h => own_keep HR2.out hg3 (fun cs2 e => by (injection e with _ e; exact hne e)) h)); clear ho3 hb3 hg3 hat3))
        go_roundw
        case rel => exact ⟨pos + 1, v, b ++ [c], rfl, by omega, ⟨⟨⟨pb, pv, HV3.out⟩, HO3.out, HI3.out, HRN.out, HAN.out, by rw [List.length_append, List.length_singleton]; omega, HB3.out⟩⟩⟩
        case measure => rw [iterPos_at HI3.out, HP0.out]; omega
      · obtain ⟨A5, c5, e5, hcv⟩ := runes_text HR2.out hbne HAS.out
        subst e5
        have hnb : 0 < b.length := List.length_pos_iff.2 hbne
        have hdw : (c.toNat : Int) ≠ 58 ∨ b.length ≠ 1 := by
          by_cases h : c = 58
          · exact .inr (fun e => hdr ⟨h, e⟩)
          · exact .inl (u8_ne (d := 58) h)
        have HDW := Lib.hid hdw
        have hbz : (⟨b.toArray⟩ : ByteArray).size = b.length := by simp [ByteArray.size]
        have hpop : Calls Tryd.prog 22 #[.int .i32 (c.toNat : Int), .slice A5 b.length c5, .pointer (some ⟨w.heap.size + 1, 0, none⟩)] w2 fun e w' => e = .returned .nilIface ∧ (∃ pb' pv', VolAt w' wA.heap.size (w.heap.size + 1) v' pb' pv') ∧ Below wA.heap.size wA w' ∧ StrKept w2 w' := by
          unfold popV at hpv
          split at hpv
          · rename_i hset
            injection hpv with hpv
            subst hpv
            exact (format_populate_set v _ wA.heap.size pb pv A5 b.length c5 (c.toNat : Int) ⟨b.toArray⟩ w2 wA HV2.out hcv hnb HB2.out hset).mono (fun e w' ⟨h1, h2, h3, h4⟩ => ⟨h1, ⟨_, _, h2⟩, h3, h4⟩)
          · rename_i hset
            split at hpv
            · rename_i h0
              injection hpv with hpv
              subst hpv
              subst h0
              exact (format_populate_opts v _ wA.heap.size pb pv A5 b.length c5 ⟨b.toArray⟩ w2 wA HV2.out hcv hnb HB2.out HB2.out.size (Nat.le_refl _) (fun e => hset (.inl e)) (fun e => hset (.inr e)) (by rw [hbz]; omega))
            · cases hpv
        have HPOP := Lib.hid hpop
        have HRN := Lib.hid hr2
        clear hpop hr2 hpv hcv hbne hdr hbz hdw hc
        rcases hsep with h58 | h0
        · subst h58
          go_wp2_with (first
            | (go_at_call 21; refine (format_isWindowsDrive_no A5 b.length c5 _ _ HDW.out).mono ?_; rintro e w3 ⟨rfl, rfl⟩)
            | (go_at_call 22; refine HPOP.out.mono ?_; rintro e w3 ⟨rfl, hv3, hb3, hk3⟩; have HV3 := Aside0.mk hv3; have HB3 := Aside0.mk hb3; have HI3 := Aside0.mk (hk3 _ _ HI2.out (keepI _ _)); clear hv3 hb3 hk3))
          go_roundw
          case rel => exact ⟨pos + 1, v', [], rfl, by omega, ⟨⟨HV3.out, Kd.R_nil _ _ _ _ _, HI3.out, HRN.out, fun x hx => by simp at hx, Nat.zero_le _, HB3.out⟩⟩⟩
          case measure => rw [iterPos_at HI3.out, HP0.out]; omega
        · subst h0
          go_wp2_with (first
            | (go_at_call 21; refine (format_isWindowsDrive_no A5 b.length c5 _ _ HDW.out).mono ?_; rintro e w3 ⟨rfl, rfl⟩)
            | (go_at_call 22; refine HPOP.out.mono ?_; rintro e w3 ⟨rfl, hv3, hb3, hk3⟩; have HV3 := Aside0.mk hv3; have HB3 := Aside0.mk hb3; have HI3 := Aside0.mk (hk3 _ _ HI2.out (keepI _ _)); clear hv3 hb3 hk3))
          go_roundw
          case rel => exact ⟨pos + 1, v', [], rfl, by omega, ⟨⟨HV3.out, Kd.R_nil _ _ _ _ _, HI3.out, HRN.out, fun x hx => by simp at hx, Nat.zero_le _, HB3.out⟩⟩⟩
          case measure => rw [iterPos_at HI3.out, HP0.out]; omega
    · have hnx : ∀ ty, (Instr.next (.pointer (some ⟨w.heap.size + 1 + 1, 0, none⟩)) true ty).run Tryd.prog wr = _ := fun ty => next_end_at wr _ t pos ty hit hpos
      have he : v = vF := by
        have h1 := HA.out.run
        rw [List.drop_eq_nil_of_le (by rw [len_data]; omega), run] at h1
        exact Option.some.inj h1
      subst he
      have HV := Aside0.mk hv
      clear hit hv
      go_upto_region 31 with (go_at_call 23; refine (format_populateType v p (w.heap.size + 1) wA.heap.size pb pv _ wA HV.out hp hps HA.out.bel HA.out.bel.size).mono ?_; rintro e w1 ⟨rfl, ⟨pb1, pv1, hv1⟩, hb1⟩)
      have hR : w1.heap[w.heap.size]? = some (.cells (volCells vol0 none none) 46 (0, 0)) := (hb1.block _ (by omega)).trans (by rw [HW.out]; exact heap_alloc_new w _)
      have c0 := (blk_cell hv1.cells 0).trans (show _ = some (Value.string (popT v p).ty) from rfl)
      have r0 := (blk_cell hR 0).trans (show _ = some (Value.string ⟨#[]⟩) from rfl)
      have f0 := blk_frozen hR 0
      have c1 := (blk_cell hv1.cells 1).trans (show _ = some (Value.string (popT v p).src) from rfl)
      have r1 := (blk_cell hR 1).trans (show _ = some (Value.string ⟨#[]⟩) from rfl)
      have f1 := blk_frozen hR 1
      have c2 := (blk_cell hv1.cells 2).trans (show _ = some (Value.string (popT v p).tgt) from rfl)
      have r2 := (blk_cell hR 2).trans (show _ = some (Value.string ⟨#[]⟩) from rfl)
      have f2 := blk_frozen hR 2
      have c3 := (blk_cell hv1.cells 3).trans (show _ = some (Value.bool (popT v p).ro) from rfl)
      have r3 := (blk_cell hR 3).trans (show _ = some (Value.bool false) from rfl)
      have f3 := blk_frozen hR 3
      have c4 := (blk_cell hv1.cells 4).trans (show _ = some (Value.string ⟨#[]⟩) from rfl)
      have r4 := (blk_cell hR 4).trans (show _ = some (Value.string ⟨#[]⟩) from rfl)
      have f4 := blk_frozen hR 4
      have c5 := (blk_cell hv1.cells 5).trans (show _ = some (encP pb1) from rfl)
      have r5 := (blk_cell hR 5).trans (show _ = some (Value.pointer none) from rfl)
      have f5 := blk_frozen hR 5
      have c6 := (blk_cell hv1.cells 6).trans (show _ = some (encP pv1) from rfl)
      have r6 := (blk_cell hR 6).trans (show _ = some (Value.pointer none) from rfl)
      have f6 := blk_frozen hR 6
      have c7 := (blk_cell hv1.cells 7).trans (show _ = some (Value.pointer none) from rfl)
      have r7 := (blk_cell hR 7).trans (show _ = some (Value.pointer none) from rfl)
      have f7 := blk_frozen hR 7
      obtain ⟨q1, hq1⟩ : ∃ q1, encP pb1 = .pointer q1 := by cases pb1 <;> exact ⟨_, rfl⟩
      obtain ⟨q2, hq2⟩ : ∃ q2, encP pv1 = .pointer q2 := by cases pv1 <;> exact ⟨_, rfl⟩
      rw [hq1] at c5
      rw [hq2] at c6
      have HQ1 := Lib.hid hq1
      have HQ2 := Lib.hid hq2
      have HV1 := Aside0.mk hv1
      have HB1 := Aside0.mk hb1
      have HR := Aside0.mk hR
      clear hv1 hb1 hR hq1 hq2
      go_wp2
      have g := HR.out
      replace g := blk_put g 0 (.string (popT v p).ty) rfl
      replace g := blk_put g 1 (.string (popT v p).src) rfl
      replace g := blk_put g 2 (.string (popT v p).tgt) rfl
      replace g := blk_put g 3 (.bool (popT v p).ro) rfl
      replace g := blk_put g 4 (.string ⟨#[]⟩) rfl
      replace g := blk_put g 5 (.pointer q1) rfl
      replace g := blk_put g 6 (.pointer q2) rfl
      replace g := blk_put g 7 (.pointer none) rfl
      refine bodyPost_ret (v := .tuple #[.agg (volCells (popT v p) pb1 pv1), .nilIface]) ?_ rfl ⟨pb1, pv1, rfl, ⟨w.heap.size + 1, ?_, ?_⟩, ?_⟩
      · have hv8 : volCells (popT v p) pb1 pv1 = #[.string (popT v p).ty, .string (popT v p).src, .string (popT v p).tgt, .bool (popT v p).ro, .string ⟨#[]⟩, .pointer q1, .pointer q2, .pointer none] := by rw [volCells, HQ1.out, HQ2.out]
        rw [hv8]
        exact results_vol _ _ _ rfl rfl g
      · have hb := HV1.out.bind
        have hR : w.heap.size < wA.heap.size := by omega
        exact BindAt.lower ((((((((hb.fin hR 0 _).fin hR 1 _).fin hR 2 _).fin hR 3 _).fin hR 4 _).fin hR 5 _).fin hR 6 _).fin hR 7 _) (by omega)
      · have hb := HV1.out.own
        have hR : w.heap.size < wA.heap.size := by omega
        exact OwnAt.lower ((((((((hb.fin hR 0 _).fin hR 1 _).fin hR 2 _).fin hR 3 _).fin hR 4 _).fin hR 5 _).fin hR 6 _).fin hR 7 _) (by omega)
      · have h0 : Below w.heap.size w w1 := by
          have h1 : Below w.heap.size w wA := by rw [HW.out]; exact (Below.refl _ _).alloc (Nat.le_refl _) _
          exact h1.trans (HB1.out.mono (by omega))
        exact (((((((h0.setCell (p := ⟨w.heap.size, 0, none⟩) (Nat.le_refl _) _).setCell (p := ⟨w.heap.size, 1, none⟩) (Nat.le_refl _) _).setCell (p := ⟨w.heap.size, 2, none⟩) (Nat.le_refl _) _).setCell (p := ⟨w.heap.size, 3, none⟩) (Nat.le_refl _) _).setCell (p := ⟨w.heap.size, 4, none⟩) (Nat.le_refl _) _).setCell (p := ⟨w.heap.size, 5, none⟩) (Nat.le_refl _) _).setCell (p := ⟨w.heap.size, 6, none⟩) (Nat.le_refl _) _).setCell (p := ⟨w.heap.size, 7, none⟩) (Nat.le_refl _) _
end Go.Proofs.YtklbghadhneejaaDoor.V
