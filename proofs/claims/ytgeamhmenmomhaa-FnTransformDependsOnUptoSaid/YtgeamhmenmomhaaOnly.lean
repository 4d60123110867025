/- Worlds that changed in blocks of a kind alone; a range over a map whose present entry is written. Plain. -/
import Derived.Test.YtgeamhmenmomhaaAnyF
import Derived.Test.YtgeamhmenmomhaaSM
namespace Go.Proofs.Ytgeamhmenmomhaa.SM
set_option linter.unusedVariables false
set_option linter.unusedSimpArgs false
set_option linter.unusedSectionVars false
open Go.RowKit Go.MapKept
section
variable {w : World} {b r : Nat} {P : Program} {t k e : TypeId} {β : Type} {cenc : β → Value} {m rm : List (ByteArray × β)} {ops : Array Oper} {os : List Oper} {o : Oper} {a : Act} {Q : Exit → Act → World → Prop}
theorem TRng.move {w' : World} (h : TRng w b r cenc m rm) (hm : w'.heap[b]? = w.heap[b]?) (hm' : w'.heap[r]? = w.heap[r]?) : TRng w' b r cenc m rm := SRng.move h hm hm'
end
end Go.Proofs.Ytgeamhmenmomhaa.SM
namespace Go.Proofs.Ytgeamhmenmomhaa.A
open Go.RowKit Go.Proofs.YtgeamhmenmomhaaW.PrintWords Go.Proofs.YtgeamhmenmomhaaW.PrintLast Go.Proofs.YtgeamhmenmomhaaW.PrintMore Go.Proofs.Ytgeamhmenmomhaa.PT Go.Proofs.Ytgeamhmenmomhaa.L Go.Proofs.Ytgeamhmenmomhaa.SM

/-- a world that has changed in blocks of P alone, and grown -/
structure Only (P : Nat → Prop) (w w' : World) : Prop where
  os : w'.os = w.os
  tape : w'.tape = w.tape
  output : w'.output = w.output
  size : w.heap.size ≤ w'.heap.size
  block : ∀ k, k < w.heap.size → ¬ P k → w'.heap[k]? = w.heap[k]?
theorem Only.refl (P : Nat → Prop) (w : World) : Only P w w := ⟨rfl, rfl, rfl, Nat.le_refl _, fun _ _ _ => rfl⟩
theorem Only.trans {P P' : Nat → Prop} {a b c : World} (h : Only P a b) (k : Only P' b c) (hP : ∀ q, P' q → q < a.heap.size → P q) : Only P a c :=
  ⟨k.os.trans h.os, k.tape.trans h.tape, k.output.trans h.output, Nat.le_trans h.size k.size, fun q hq hn => (k.block q (Nat.lt_of_lt_of_le hq h.size) (fun e => hn (hP q e hq))).trans (h.block q hq hn)⟩
theorem Only.of_below {P : Nat → Prop} {w w' : World} (h : Below w.heap.size w w') : Only P w w' := ⟨h.os, h.tape, h.output, h.size, fun k hk _ => h.block k hk⟩
theorem Only.of_grown {P : Nat → Prop} {w w' : World} {b : Nat} (h : w.grownBy w' (some b)) (hb : P b) : Only P w w' := ⟨h.os, h.tape, h.output, h.size, fun k hk hn => h.block k hk (fun e => by injection e with e; exact hn (e ▸ hb))⟩
theorem Only.toBelow {P : Nat → Prop} {B : Nat} {w w' : World} (h : Only P w w') (hP : ∀ k, P k → B ≤ k) (hB : B ≤ w.heap.size) : Below B w w' := ⟨h.os, h.tape, h.output, h.size, fun k hk => h.block k (Nat.lt_of_lt_of_le hk hB) (fun e => by have := hP k e; omega)⟩
theorem AV.enc_inj {a b : AV} (h : a.enc = b.enc) : a = b := by
  cases a <;> cases b <;> simp_all [AV.enc]
theorem rng_mem_of {w : World} {b r : Nat} {l rm : List (ByteArray × AV)} (h : TRng w b r AV.enc l rm) {q : ByteArray × AV} (hq : q ∈ rm) : q ∈ l := by
  obtain ⟨es, clock, since, seen, c0, hb, hs, he, hr, hold, hsc, hl⟩ := h
  have h1 : SM.enc (q.1, q.2.enc) ∈ (mapE AV.enc rm).map SM.enc := List.mem_map_of_mem (List.mem_map_of_mem (f := fun p : ByteArray × AV => (p.1, p.2.enc)) hq)
  rw [← hl] at h1
  obtain ⟨x, hx, hxe⟩ := List.mem_map.1 h1
  have hx2 : x ∈ es.toList := by
    unfold leftOf at hx
    rw [Array.toList_filter] at hx
    exact (List.mem_filter.1 hx).1
  have h2 : kv x ∈ (mapE AV.enc l).map SM.enc := by rw [← he]; exact List.mem_map_of_mem hx2
  rw [hxe] at h2
  obtain ⟨u, hu, hue⟩ := List.mem_map.1 h2
  obtain ⟨z, hz, rfl⟩ := List.mem_map.1 hu
  have e1 : Value.string z.1 = .string q.1 := congrArg Prod.fst hue
  have e2 : z.2.enc = q.2.enc := congrArg Prod.snd hue
  injection e1 with e1
  have : z = q := Prod.ext e1 (AV.enc_inj e2)
  rw [← this]
  exact hz
theorem mem_keys_del {β : Type} {rm : List (ByteArray × β)} {s k : ByteArray} : k ∈ SM.keys (del rm s) ↔ k ≠ s ∧ k ∈ SM.keys rm := by
  unfold SM.keys
  constructor
  · intro h
    obtain ⟨q, hq, rfl⟩ := List.mem_map.1 h
    have := (mem_del q).1 hq
    exact ⟨this.1, List.mem_map_of_mem this.2⟩
  · rintro ⟨h1, h2⟩
    obtain ⟨q, hq, rfl⟩ := List.mem_map.1 h2
    exact List.mem_map_of_mem ((mem_del q).2 ⟨h1, hq⟩)
theorem hd_same {β : Type} {rm : List (ByteArray × β)} {k : ByteArray} : SM.has (del rm k) k = false := has_false.2 (fun h => (mem_keys_del.1 h).1 rfl)
theorem hd_other {β : Type} {rm : List (ByteArray × β)} {k s : ByteArray} (hn : k ≠ s) : SM.has (del rm s) k = SM.has rm k := by
  rw [Bool.eq_iff_iff, has_iff, has_iff, mem_keys_del]
  exact ⟨fun h => h.2, fun h => ⟨hn, h⟩⟩
end Go.Proofs.Ytgeamhmenmomhaa.A
