/- Walks: the groups of a match by their names. -/
import Derived.Test.YtlncdacoefoldaaGreatDoorSubF
namespace Go.Proofs.YtlncdacoefoldaaGreatDoor.U
set_option linter.unusedVariables false
set_option linter.unusedSimpArgs false
set_option linter.unusedSectionVars false
open Go.RowKit Go.Proofs.YtlncdacoefoldaaGreatDoorW.PrintWords Go.Proofs.YtlncdacoefoldaaGreatDoorW.PrintLast Go.Proofs.YtlncdacoefoldaaGreatDoor.PX Go.Proofs.YtlncdacoefoldaaGreatDoor.SM Go.Proofs.YtlncdacoefoldaaGreatDoor.L

def nEsc : ByteArray := ⟨#[101, 115, 99, 97, 112, 101, 100]⟩
def nNamed : ByteArray := ⟨#[110, 97, 109, 101, 100]⟩
def nBraced : ByteArray := ⟨#[98, 114, 97, 99, 101, 100]⟩
def nInv : ByteArray := ⟨#[105, 110, 118, 97, 108, 105, 100]⟩
def nameL : List ByteArray := [⟨#[]⟩, nEsc, nNamed, nBraced, ⟨#[]⟩, nInv]
def nameC : Array Value := #[.string ⟨#[]⟩, .string nEsc, .string nNamed, .string nBraced, .string ⟨#[]⟩, .string nInv]
theorem subexp (w : World) :
    Calls Tryz.prog 114 #[.agg #[]] w fun e w' => ∃ b T, e = .returned (.slice (some ⟨b, 0, none⟩) 6 6) ∧ w'.heap[b]? = some (.cells nameC T (0, 0)) ∧ w.heap.size ≤ b ∧ Below w.heap.size w w' := by
  go_enter Tryz.func114, Tryz.ntmps114
  go_wp2
  go_ret
  exact ⟨_, 9, rfl, (by have h := (MapKept.heap_alloc (w.alloc (Obj.cells #[] 82)) (Obj.cells nameC 9)).1; rw [show (w.alloc (Obj.cells #[] 82)).heap.size = w.heap.size + 1 by simp] at h; exact h), by simp, ((Below.refl _ _).alloc (Nat.le_refl _) _).alloc (by simp) _⟩
/-- what the map holds after so many rounds -/
def gm (g : List ByteArray) (i : Nat) : List (ByteArray × ByteArray) := (List.range i).foldl (fun M j => put M (nameL.getD (j + 1) ⟨#[]⟩) (g.getD (j + 1) ⟨#[]⟩)) []
theorem gm_next (g : List ByteArray) (i : Nat) : gm g (i + 1) = put (gm g i) (nameL.getD (i + 1) ⟨#[]⟩) (g.getD (i + 1) ⟨#[]⟩) := by
  unfold gm
  rw [List.range_succ, List.foldl_append]
  rfl
theorem gm_five (m : M) : gm (groups m) 5 = [(nEsc, mk m.esc), (nNamed, mk m.named), (nBraced, mk m.braced), (⟨#[]⟩, mk m.op), (nInv, mk [])] := by
  have h1 : nNamed ≠ nEsc := by decide
  have h2 : nBraced ≠ nEsc := by decide
  have h3 : nBraced ≠ nNamed := by decide
  have h4 : (⟨#[]⟩ : ByteArray) ≠ nEsc := by decide
  have h5 : (⟨#[]⟩ : ByteArray) ≠ nNamed := by decide
  have h6 : (⟨#[]⟩ : ByteArray) ≠ nBraced := by decide
  have h7 : nInv ≠ nEsc := by decide
  have h8 : nInv ≠ nNamed := by decide
  have h9 : nInv ≠ nBraced := by decide
  have h10 : nInv ≠ (⟨#[]⟩ : ByteArray) := by decide
  simp [gm, List.range_succ, groups, nameL, put, has, h1, h1.symm, h2, h2.symm, h3, h3.symm, h4, h4.symm, h5, h5.symm, h6, h6.symm, h7, h7.symm, h8, h8.symm, h9, h9.symm, h10, h10.symm]
theorem look_esc (m : M) : SM.look (gm (groups m) 5) nEsc = some (mk m.esc) := by rw [gm_five]; simp [SM.look]
theorem look_named (m : M) : SM.look (gm (groups m) 5) nNamed = some (mk m.named) := by
  have h1 : ¬ nEsc = nNamed := by decide
  rw [gm_five]; simp [SM.look, h1]
theorem look_braced (m : M) : SM.look (gm (groups m) 5) nBraced = some (mk m.braced) := by
  have h1 : ¬ nEsc = nBraced := by decide
  have h2 : ¬ nNamed = nBraced := by decide
  rw [gm_five]; simp [SM.look, h1, h2]
set_option maxHeartbeats 2000000 in
set_option maxRecDepth 100000 in
theorem groups_calls (A : Option Addr) (c : Nat) (m : M) (w : World) (hr : Kd.C Kd.string w A 6 (groups m)) :
    Calls Tryz.prog 102 #[.slice A 6 c, .agg #[]] w fun e w' => ∃ b, e = .returned (.map (some b)) ∧ TMap w' b Value.string (gm (groups m) 5) ∧ Below w.heap.size w w' := by
  have HR := Aside0.mk hr
  clear hr
  have hmm := @run_makeMap Tryz.prog
  have hmu := Tryz.underlying95
  go_enter Tryz.func102, Tryz.ntmps102
  go_wp2_with ((go_at_call 114; refine (subexp _).mono ?_; rintro e w1 ⟨bn, T, rfl, hn, hbn, hb⟩; have HN := Aside0.mk hn; have HBN := Lib.hid hbn; have HB1 := Aside0.mk (below_then (((Below.refl _ _).alloc (Nat.le_refl _) _).alloc (by simp) _) (by simp; omega) hb); have HM1 := Aside0.mk (((TMap.made (w.alloc (Obj.cells #[] 82)) Value.string)).below hb); clear hn hbn hb))
  have HMB := Lib.hid (show (w.alloc (Obj.cells #[] 82)).heap.size = w.heap.size + 1 by simp)
  rw [HMB.out] at HM1
  go_loopw [13] (fun v13 wr => ∃ i : Nat, i ≤ 5 ∧ v13 = .int .i64 i ∧ Aside0 (TMap wr (w.heap.size + 1) Value.string (gm (groups m) i)) ∧ Aside0 (wr.heap[bn]? = some (Obj.cells nameC T)) ∧ Aside0 (Below w.heap.size w wr)) (fun v13 _ => 5 - (intOf v13).toNat)
  case atStart => exact ⟨0, by omega, rfl, HM1, HN, HB1⟩
  case round =>
    obtain ⟨i, hi, rfl, HM, HN, HB⟩ := hrel
    by_cases hlt : i < 5
    · obtain ⟨ad, rfl, hx⟩ := Kd.at_string (Kd.C_below HR.out HB.out) ((i : Int) + 1) (by omega) (by omega)
      obtain ⟨x, hX⟩ : ∃ x, x = (groups m).getD (i + 1) ⟨#[]⟩ := ⟨_, rfl⟩
      obtain ⟨y, hY⟩ : ∃ y, y = nameL.getD (i + 1) ⟨#[]⟩ := ⟨_, rfl⟩
      have hy : wr.cell? ⟨bn, 1 + i, none⟩ = some (.string y) := by
        rw [show wr.cell? ⟨bn, 1 + i, none⟩ = nameC[1 + i]? from cell_one HN.out _, hY]
        match i, hlt with
        | 0, _ => rfl
        | 1, _ => rfl
        | 2, _ => rfl
        | 3, _ => rfl
        | 4, _ => rfl
      have hx' : wr.cell? ⟨ad.block, ad.off + (i + 1), none⟩ = some (.string x) := by
        have e1 : rdOf ByteArray.empty (groups m) ((i : Int) + 1) = x := by rw [hX]; rfl
        rw [e1] at hx
        exact hx
      have HX := Lib.hid hX
      have HY := Lib.hid hY
      clear hX hY hx
      go_wp2_with ((at_mapUpdate; refine wp_put rfl _ _ _ rfl Tryz.underlying95 Tryz.underlying9 rfl HM.out y x rfl rfl (w0 := w) (B := w.heap.size) HB.out (by omega) ?_; intro w2 hm2 hb2 hg2 _; have HM2 := Aside0.mk hm2; have HB2 := Aside0.mk hb2; clear hm2 hb2))
      have hbl : bn < wr.heap.size := by
        rcases Nat.lt_or_ge bn wr.heap.size with q | q
        · exact q
        · have := HN.out; rw [Array.getElem?_eq_none q] at this; cases this
      have hne : w.heap.size + 1 < bn := by have := HBN.out; simp at this; omega
      go_roundw
      case rel => exact ⟨i + 1, by omega, by go_num, ⟨by rw [gm_next, ← HY.out, ← HX.out]; exact HM2.out⟩, ⟨(hg2.block bn hbl (fun e => by injection e with e; omega)).trans HN.out⟩, HB2⟩
      case measure => simp [intOf]; omega
    · go_wp2
      go_ret
      obtain rfl : i = 5 := by omega
      exact ⟨_, rfl, HM.out, HB.out⟩
end Go.Proofs.YtlncdacoefoldaaGreatDoor.U
