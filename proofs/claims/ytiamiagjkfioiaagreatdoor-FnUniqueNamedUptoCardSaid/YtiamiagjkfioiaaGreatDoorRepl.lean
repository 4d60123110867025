/- Walks: package tree's zzReplaceAll of dots, Path.Next of any part. -/
import Derived.Test.YtiamiagjkfioiaaGreatDoorTreeM
import Derived.Test.YtiamiagjkfioiaaGreatDoorBytes
namespace Go.Proofs.YtiamiagjkfioiaaGreatDoor.L
set_option linter.unusedVariables false
set_option linter.unusedSimpArgs false
set_option linter.unusedSectionVars false
open Go.RowKit

/-- dots made ghosts -/
def replL : List UInt8 → List UInt8
  | [] => []
  | c :: r => (if c = 46 then [240, 159, 145, 187] else [c]) ++ replL r
def ghostJ : List (List UInt8) → List UInt8
  | [] => []
  | [x] => x
  | x :: y :: r => x ++ [240, 159, 145, 187] ++ ghostJ (y :: r)
theorem ghostJ_cons {r : List (List UInt8)} (h : r ≠ []) (x : List UInt8) : ghostJ (x :: r) = x ++ [240, 159, 145, 187] ++ ghostJ r := by
  cases r with
  | nil => exact absurd rfl h
  | cons y r => rfl
theorem replL_sp : ∀ l : List UInt8, replL l = ghostJ (sp 46 l)
  | [] => rfl
  | c :: r => by
    have ih := replL_sp r
    unfold replL sp
    by_cases hc : c = 46
    · rw [if_pos hc, if_pos hc, ghostJ_cons (sp_ne 46 r), ih]; rfl
    · rw [if_neg hc, if_neg hc, ih]
      cases e : sp 46 r with
      | nil => exact absurd e (sp_ne 46 r)
      | cons h t =>
        cases t with
        | nil => rfl
        | cons y t => rfl
theorem replL_len : ∀ l : List UInt8, (replL l).length ≤ 4 * l.length
  | [] => Nat.le_refl _
  | c :: r => by
    have := replL_len r
    unfold replL
    rw [List.length_append, List.length_cons]
    split <;> simp <;> omega
theorem replL_miss {l : List UInt8} (h : Lib.index l [46] = -1) : replL l = l := by rw [replL_sp, index_one_miss 46 l h]; rfl
theorem replL_hit {l : List UInt8} {i : Nat} (h : Lib.index l [46] = i) : replL l = l.take i ++ [240, 159, 145, 187] ++ replL (l.drop (i + 1)) := by
  rw [replL_sp, index_one_hit 46 l i h, ghostJ_cons (sp_ne 46 _), ← replL_sp]
/-- what a path is with one part more -/
def nextP (p x : ByteArray) : ByteArray := if p.size = 0 then x else p ++ ⟨#[46]⟩ ++ mk (replL x.data.toList)
theorem byteInfo : (Tryz.prog.info? 5).map (fun i => (i.zero, i.size, i.bytes)) = some (some (.int .u8 0), 1, 1) := by kernel_rfl
set_option maxHeartbeats 1600000 in
set_option maxRecDepth 100000 in
theorem tree_zzReplaceAll (s : ByteArray) (w : World) (hs : s.size ≤ 2147483647) :
    Calls Tryz.prog 94 #[.string s, .string ⟨#[46]⟩, .string ⟨#[240, 159, 145, 187]⟩] w fun e w' => e = .returned (.string (mk (replL s.data.toList))) ∧ Below w.heap.size w w' := by
  obtain ⟨b0, bi, bz0, bz1, bz2⟩ := info_parts byteInfo
  have hlen4 := replL_len s.data.toList
  rw [← Lib.size_eq] at hlen4
  have HL4 := Lib.hid hlen4
  clear hlen4
  go_enter Tryz.func94, Tryz.ntmps94
  go_wp2
  go_loopw [0, 7, 10] (fun c v _ wr => ∃ (cur : ByteArray) (acc : List UInt8), c = .string cur ∧ Hid (replL s.data.toList = acc ++ replL cur.data.toList) ∧ cur.size ≤ s.size ∧ acc.length + 4 * cur.size ≤ 4 * s.size ∧
      wr.ownsRow w.heap.size 5 1 v acc.length (acc.map bv) ∧ Below w.heap.size w wr) (fun c _ _ _ => match c with | .string c => c.size | _ => 0)
  case atStart => exact ⟨s, [], rfl, rfl, Nat.le_refl _, by simp, ⟨by simp, .inl ⟨rfl, rfl⟩⟩, Below.refl _ _⟩
  case round =>
    obtain ⟨cur, acc, rfl, hsp, hcs, hlen, hown, hb⟩ := hrel
    have hws : w.heap.size ≤ wr.heap.size := hb.size
    by_cases hneg : Lib.index cur.data.toList [46] < 0
    · have hm : Lib.index cur.data.toList [46] = -1 := by have := Lib.index_ge cur.data.toList [46]; omega
      have X : Hid (replL s.data.toList = acc ++ cur.data.toList) := Lib.hid (by rw [hsp.out, replL_miss hm])
      clear hm hsp
      go_wp2_with (first | (go_at_call 118; refine (tree_zzIndex cur _ _ (by omega) (by show 1 ≤ _; omega) (by show 0 < 1; omega)).mono ?_; rintro e w' ⟨rfl, rfl⟩) | (at_builtin; refine Lib.wpList_append_own_string _ rfl _ _ 115 9 rfl w.heap.size 5 b0 Tryz.underlying115 Tryz.underlying9 bi bz0 bz1 bz2 _ _ _ rfl hown (cur) rfl ?c3 ?c4 ?c5 ?_; (case c3 => unfold maxLen; omega); (case c4 => omega); (case c5 => first | omega | (simp; omega)); intro v' w1 hown' hgrow _; have hbA := hb.grown hgrow hws (fun k' hk' => (World.ownsRow.lt hown k' hk').1); have hO := Lib.hid (show w1.ownsRow w.heap.size 5 1 v' (acc ++ cur.data.toList).length ((acc ++ cur.data.toList).map bv) from by simpa [strCells_bv, ← Lib.size_eq] using hown')) | (refine wpList_string_own rfl _ 115 5 9 rfl Tryz.underlying115 Tryz.underlying5 Tryz.underlying9 _ rfl _ _ (RdK.of_own hO.out) ?_))
      go_ret
      exact ⟨by rw [X.out]; rfl, hbA⟩
    · have hge := Lib.index_ge cur.data.toList [46]
      obtain ⟨i, hi'⟩ : ∃ i : Nat, Lib.index cur.data.toList [46] = i := ⟨(Lib.index cur.data.toList [46]).toNat, by omega⟩
      have hroom := Lib.index_room cur.data.toList [46] (by omega)
      rw [hi', ← Lib.size_eq] at hroom
      simp only [List.length_singleton] at hroom
      have X : Hid (replL s.data.toList = (acc ++ (cur.extract 0 i).data.toList ++ [240, 159, 145, 187]) ++ replL (cur.extract (i + 1) cur.size).data.toList) := by
        refine Lib.hid ?_
        rw [hsp.out, replL_hit hi', extract_end, mk_data, extract_start, mk_data]
        simp
      have Y : Hid (Lib.index cur.data.toList [46] = i) := hi'
      have hi4 : (cur.extract 0 i).size = i := by rw [extract_start, mk_size, List.length_take, ← Lib.size_eq]; omega
      have hg4 : (⟨#[240, 159, 145, 187]⟩ : ByteArray).size = 4 := rfl
      clear hi' hsp hneg hge
      go_wp2_with (first | (go_at_call 118; refine (tree_zzIndex_at cur _ i _ (by omega) (by show 1 ≤ _; omega) (by show 0 < 1; omega) Y.out).mono ?_; rintro e w' ⟨rfl, rfl⟩) | (at_builtin; refine Lib.wpList_append_own_string _ rfl _ _ 115 9 rfl w.heap.size 5 b0 Tryz.underlying115 Tryz.underlying9 bi bz0 bz1 bz2 _ _ _ rfl hown ((cur.extract 0 i)) rfl ?c3 ?c4 ?c5 ?_; (case c3 => unfold maxLen; omega); (case c4 => omega); (case c5 => first | omega | (simp; omega)); intro v' w1 hown' hgrow _; have hbA := hb.grown hgrow hws (fun k' hk' => (World.ownsRow.lt hown k' hk').1); have hws1 := hbA.size) | (at_builtin; refine Lib.wpList_append_own_string _ rfl _ _ 115 9 rfl w.heap.size 5 b0 Tryz.underlying115 Tryz.underlying9 bi bz0 bz1 bz2 _ _ _ rfl hown' ((⟨#[240, 159, 145, 187]⟩ : ByteArray)) rfl ?c3 ?c4 ?c5 ?_; (case c3 => unfold maxLen; omega); (case c4 => omega); (case c5 => first | omega | (simp; omega)); intro v'' w2 hown'' hgrow' _))
      go_roundw
      case rel =>
        refine ⟨_, acc ++ (cur.extract 0 i).data.toList ++ [240, 159, 145, 187], rfl, X, ?_, ?_, ?_, hbA.grown hgrow' hws1 (fun k' hk' => (World.ownsRow.lt hown' k' hk').1)⟩
        · simp; omega
        · rw [List.length_append, List.length_append, ← Lib.size_eq, hi4]; simp; omega
        · rw [hg4] at hown''
          simpa [strCells_bv, List.map_append, ← Lib.size_eq, Nat.add_assoc] using hown''
      case measure => simp; omega
end Go.Proofs.YtiamiagjkfioiaaGreatDoor.L
