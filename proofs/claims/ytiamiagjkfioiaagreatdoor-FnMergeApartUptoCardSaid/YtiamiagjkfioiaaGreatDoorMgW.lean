/- Joined texts. -/
import Derived.Test.YtiamiagjkfioiaaGreatDoorMgL
import Derived.Test.YtiamiagjkfioiaaGreatDoorFromA
/- The walk of override.zzMergeSpecial at a path that no rule is for; Path.Next of any part. -/
namespace Go.Proofs.YtiamiagjkfioiaaGreatDoor.A
set_option linter.unusedVariables false
set_option linter.unusedSimpArgs false
set_option linter.unusedSectionVars false
open Go.RowKit Go.Proofs.YtiamiagjkfioiaaGreatDoorW.PrintWords Go.Proofs.YtiamiagjkfioiaaGreatDoorW.PrintLast Go.Proofs.YtiamiagjkfioiaaGreatDoorW.PrintMore Go.Proofs.YtiamiagjkfioiaaGreatDoor.PT Go.Proofs.YtiamiagjkfioiaaGreatDoor.L Go.Proofs.YtiamiagjkfioiaaGreatDoor.SM

theorem tree_NextG (p x : ByteArray) (w : World) (hs : p.size ≤ 2147483647) (hx : x.size ≤ 2147483647) :
    Calls Tryz.prog 69 #[.string p, .string x] w fun e w' => e = .returned (.string (nextP p x)) ∧ Below w.heap.size w w' := by
  by_cases h0 : p.size = 0
  · have hp : p = ⟨#[]⟩ := by
      have := Lib.size_eq p
      rw [h0] at this
      exact data_inj (by simpa using (List.eq_nil_of_length_eq_zero this.symm))
    have hn : nextP p x = x := by unfold nextP; rw [if_pos h0]
    rw [hn]
    subst hp
    clear hn h0 hs
    go_enter Tryz.func69, Tryz.ntmps69
    go_wp2
    go_ret
    exact ⟨rfl, Below.refl _ _⟩
  · have hE : p.toList.isEmpty = false := by rw [isEmpty_of_size, decide_eq_false h0]
    have hE2 : (p.toList == []) = false := by rw [← hE]; cases p.toList <;> rfl
    have hn : nextP p x = p ++ ⟨#[46]⟩ ++ mk (replL x.data.toList) := by unfold nextP; rw [if_neg h0]
    obtain ⟨r, hr⟩ : ∃ r, r = mk (replL x.data.toList) := ⟨_, rfl⟩
    have hrs : r.size ≤ 8589934588 := by
      rw [hr, mk_size]
      have := replL_len x.data.toList
      rw [← Lib.size_eq] at this
      omega
    have HZ := Lib.hid (tree_zzReplaceAll x w hx)
    rw [← hr] at HZ hn
    have HN := Lib.hid hn
    have hs1 : ¬ 9223372036854775807 < p.size + 1 := by omega
    have hs2 : ¬ 9223372036854775807 < p.size + 1 + r.size := by omega
    clear hn hr h0
    go_enter Tryz.func69, Tryz.ntmps69
    go_wp2_with fail
    refine HZ.out.mono ?_
    rintro e w1 ⟨rfl, hb⟩
    go_wp2
    go_ret
    exact ⟨by rw [HN.out]; rfl, hb⟩
theorem matches_no {p : ByteArray} (hn : NoRule p) (pat : ByteArray) (w : World) (hr : ruleB pat = true) (hp : pat.size ≤ 2147483647) :
    Calls Tryz.prog 73 #[.string p, .string pat] w fun e w' => e = .returned (.bool false) ∧ Below w.heap.size w w' := by
  have := tree_Matches p pat w hn.size hp
  rw [hn.no pat hr] at this
  exact this
def SpecC (p : ByteArray) : Prop := ∀ w : World, Calls Tryz.prog 51 #[.string p] w fun e w' => e = .returned (.tuple #[.nilFunc, .bool false]) ∧ Below w.heap.size w w'
set_option maxHeartbeats 4000000 in
set_option maxRecDepth 100000 in
theorem override_special {p : ByteArray} (hn : NoRule p) : SpecC p := by
  intro w
  have HN := Lib.hid hn
  have HB := Aside0.mk (Below.refl w.heap.size w)
  clear hn
  go_enter Tryz.func51, Tryz.ntmps51
  go_upto_region 11 with (go_at_call 73; refine (matches_no HN.out _ _ (by kernel_rfl) (of_decide_eq_true (by kernel_rfl))).mono ?_; rintro e w' ⟨rfl, hb'⟩; replace HB := Aside0.mk (below_then HB.out HB.out.size hb'); clear hb')
  obtain ⟨g, hg⟩ : ∃ g, g = w'.heap.size := ⟨_, rfl⟩
  obtain ⟨W0, hW0⟩ : ∃ W0 : World, W0 = w'.alloc (Obj.cells #[.string ⟨#[115, 101, 114, 118, 105, 99, 101, 115]⟩, .string ⟨#[106, 111, 98, 115]⟩] 69) := ⟨_, rfl⟩
  have hg0 : W0.heap[g]? = some (.cells #[.string ⟨#[115, 101, 114, 118, 105, 99, 101, 115]⟩, .string ⟨#[106, 111, 98, 115]⟩] 69 (0, 0)) := by rw [hW0, hg]; exact new_atI rfl
  have HG0 := Aside0.mk hg0
  have HB0 : Aside0 (Below w.heap.size w W0) := ⟨by rw [hW0]; exact HB.out.alloc HB.out.size _⟩
  have HW0 := Lib.hid hW0
  have HGE := Lib.hid hg
  clear hg0 hW0 hg
  go_upto_region 12 with fail
  rw [← HW0.out, ← HGE.out]
  go_loopw [18] (fun v18 wr => ∃ i : Nat, i ≤ 2 ∧ v18 = .int .i64 i ∧ Aside0 (Below W0.heap.size W0 wr)) (fun v18 _ => 2 - (intOf v18).toNat)
  case atStart => exact ⟨0, by decide, rfl, ⟨Below.refl _ _⟩⟩
  case round =>
    obtain ⟨i, hi, rfl, HC⟩ := hrel
    have hx := blk_below HG0.out HC.out
    have c0 : wr.cell? ⟨g, 0, none⟩ = some (.string ⟨#[115, 101, 114, 118, 105, 99, 101, 115]⟩) := (blk_cell hx 0).trans rfl
    have c1 : wr.cell? ⟨g, 1, none⟩ = some (.string ⟨#[106, 111, 98, 115]⟩) := (blk_cell hx 1).trans rfl
    clear hx
    have HCB := Aside0.mk HC.out
    rcases (by omega : i = 0 ∨ i = 1 ∨ i = 2) with i0 | i0 | i0
    · subst i0
      go_wp2_with (go_at_call 73; refine (matches_no HN.out _ _ (by kernel_rfl) (of_decide_eq_true (by kernel_rfl))).mono ?_; rintro e w' ⟨rfl, hb'⟩; replace HC := Aside0.mk (below_then HC.out HC.out.size hb'); clear hb')
      go_roundw
      case rel => exact ⟨1, by decide, by go_num, HC⟩
      case measure => decide
    · subst i0
      go_wp2_with (go_at_call 73; refine (matches_no HN.out _ _ (by kernel_rfl) (of_decide_eq_true (by kernel_rfl))).mono ?_; rintro e w' ⟨rfl, hb'⟩; replace HC := Aside0.mk (below_then HC.out HC.out.size hb'); clear hb')
      go_roundw
      case rel => exact ⟨2, by decide, by go_num, HC⟩
      case measure => decide
    · subst i0
      go_wp2_with (go_at_call 73; refine (matches_no HN.out _ _ (by kernel_rfl) (of_decide_eq_true (by kernel_rfl))).mono ?_; rintro e w' ⟨rfl, hb'⟩; replace HC := Aside0.mk (below_then HC.out HC.out.size hb'); clear hb')
      go_ret2
      exact ⟨rfl, HB0.out.trans (HC.out.mono HB0.out.size)⟩
end Go.Proofs.YtiamiagjkfioiaaGreatDoor.A
/- The walks of override.mergeMappings, override.MergeYaml (two maps), override.Merge. -/
namespace Go.Proofs.YtiamiagjkfioiaaGreatDoor.A
set_option linter.unusedVariables false
set_option linter.unusedSimpArgs false
set_option linter.unusedSectionVars false
open Go.RowKit Go.Proofs.YtiamiagjkfioiaaGreatDoorW.PrintWords Go.Proofs.YtiamiagjkfioiaaGreatDoorW.PrintLast Go.Proofs.YtiamiagjkfioiaaGreatDoorW.PrintMore Go.Proofs.YtiamiagjkfioiaaGreatDoor.PT Go.Proofs.YtiamiagjkfioiaaGreatDoor.L Go.Proofs.YtiamiagjkfioiaaGreatDoor.SM

theorem nil_mapM (w : World) : (Instr.typeAssert .nilIface 20 55 true).run Tryz.prog w = .ok (.tuple #[.map none, .bool false]) w := by
  have hz : (zeroValue 55).run Tryz.prog w = .ok (.map none) w := by kernel_rfl
  simp [Instr.typeAssert, run_underlying Tryz.underlying55, go_sem, Result.andThen, hz]
theorem nil_listM (w : World) : (Instr.typeAssert .nilIface 20 48 true).run Tryz.prog w = .ok (.tuple #[.slice none 0 0, .bool false]) w := by
  have hz : (zeroValue 48).run Tryz.prog w = .ok (.slice none 0 0) w := by kernel_rfl
  simp [Instr.typeAssert, run_underlying Tryz.underlying48, go_sem, Result.andThen, hz]
/-- what a merge answers -/
def MgAns (w : World) (P1 P2 : Nat → Prop) (z : IV) (e : Ending) (w' : World) : Prop := ∃ v : AV, e = .returned (.tuple #[v.enc, .nilIface]) ∧ FromF w' (fun n => P1 n ∨ P2 n ∨ (w.heap.size ≤ n ∧ n < w'.heap.size)) v z ∧ Only P1 w w'
/-- override.MergeYaml of a and b at a path makes z -/
def MYC (p : ByteArray) (a b z : IV) : Prop := ∀ (w : World) (u1 u2 : AV) (P1 P2 : Nat → Prop), FromF w P1 u1 a → FromF w P2 u2 b → (∀ n, P1 n → n < w.heap.size) → (∀ n, P2 n → n < w.heap.size) → (∀ n, P1 n → ¬ P2 n) →
  Calls Tryz.prog 41 #[u1.enc, u2.enc, .string p] w (MgAns w P1 P2 z)
theorem MYC.use {p : ByteArray} {a b z : IV} (h : MYC p a b z) {w : World} {u1 u2 : AV} {P1 P2 : Nat → Prop} (h1 : FromF w P1 u1 a) (h2 : FromF w P2 u2 b) (l1 : ∀ n, P1 n → n < w.heap.size) (l2 : ∀ n, P2 n → n < w.heap.size) (hd : ∀ n, P1 n → ¬ P2 n) :
  Calls Tryz.prog 41 #[u1.enc, u2.enc, .string p] w (MgAns w P1 P2 z) := h w u1 u2 P1 P2 h1 h2 l1 l2 hd
def MapsAns (w : World) (P1 P2 : Nat → Prop) (b1 : Nat) (z : IV) (e : Ending) (w' : World) : Prop := e = .returned (.tuple #[.map (some b1), .nilIface]) ∧ FromF w' (fun n => P1 n ∨ P2 n ∨ (w.heap.size ≤ n ∧ n < w'.heap.size)) (.map b1) z ∧ Only P1 w w'
set_option maxHeartbeats 8000000 in
set_option maxRecDepth 100000 in
theorem override_maps {p : ByteArray} {a b z : IV} {P1 P2 : Nat → Prop} {Q1 Q2 : ByteArray → Nat → Prop} {b1 b2 : Nat} {m1 m2 : List (ByteArray × AV)} {w : World} (K : MgK a b z P1 P2 Q1 Q2 b1 b2 m1 m2 w) (hp : p.size ≤ 2147483647)
    (hs : ∀ k, k ∈ a.f3 → k ∈ b.f3 → k.size ≤ 2147483647) (h3 : ∀ k x y u, kidI a k = some x → kidI b k = some y → kidI z k = some u → MYC (nextP p k) x y u) (hzl : z.f4.length = z.f3.length) :
    Calls Tryz.prog 53 #[.map (some b1), .map (some b2), .string p] w (MapsAns w P1 P2 b1 z) := by
  have HT2 := Aside0.mk K.t2
  have HK := Lib.hid K
  have HS := Lib.hid hs
  have H3 := Lib.hid h3
  have HP := Lib.hid hp
  have HZL := Lib.hid hzl
  have hze := fun w : World => zeroA w
  clear K hs h3 hp hzl
  go_enter Tryz.func53, Tryz.ntmps53
  go_wp2_with (at_range; go_loud (refine wp_range rfl _ rfl Tryz.underlying55 rfl HT2.out (w0 := w) (B := w.heap.size) (Below.refl _ _) (Nat.le_refl _) ?_; intro w1 r hr ht _ hg _; have HT := Aside0.mk ht; have HG := Aside0.mk hg; have HR := Lib.hid hr; clear ht hg hr))
  go_frame
  go_loopw [] (fun wr => ∃ (m rm : List (ByteArray × AV)) (G : ByteArray → Nat → Prop), Aside0 (MgL a b z P1 Q1 Q2 b1 b2 r m2 w wr m rm G)) (fun wr => wr.rangeLeft b2 r)
  case atStart => exact ⟨m1, m2, Q1, ⟨HK.out.start HR.out HT.out HG.out⟩⟩
  case round =>
    obtain ⟨m, rm, G, H⟩ := hrel
    have HNE : Hid (b2 ≠ r) := Lib.hid (by have h1 := HR.out; have h2 := HK.out.l2 _ HK.out.p2; omega)
    have HN1 : Hid (b1 ≠ r) := Lib.hid (by have h1 := HR.out; have h2 := HK.out.l1 _ HK.out.p1; omega)
    go_wp2_with (at_next; refine wp_next rfl _ rfl rfl HNE.out H.out.rng (w0 := wr) (B := 0) (Below.refl _ _) (Nat.zero_le _) ?_ ?_)
    · intro hrm
      subst hrm
      go_wp2
      go_ret2
      exact ⟨rfl, HK.out.done HR.out H.out, H.out.only⟩
    · intro qk qv w2 hq ht2 _ hg2 hs2 hen
      have HQ := Lib.hid hq
      have HT2' := Aside0.mk ht2
      have HG2 := Aside0.mk hg2
      have hnd := H.out.rng.nodup
      have HLL := Lib.hid (show (del rm qk).length < rm.length from Nat.lt_of_lt_of_eq (Nat.lt_succ_self _) (length_del (p := (qk, qv)) hnd hq))
      have HM2 : Aside0 (TMap w2 b1 AV.enc m) := ⟨H.out.map.grown hg2 (fun e => by injection e with e; exact HN1.out e)⟩
      have hz2 := hze w2
      clear hnd ht2 hg2 hs2 hq
      cases hh : SM.has m qk with
      | false =>
        have hl := look_none.2 hh
        have HH := Lib.hid hh
        go_wp2_with (first | (at_lookup; refine wp_look rfl _ _ true rfl Tryz.underlying55 Tryz.underlying9 rfl HM2.out qk rfl hz2 ?_; rw [if_pos rfl, hl, hh]; simp only [Option.map_none, Option.getD_none]) | (at_mapUpdate; refine wp_put rfl _ _ _ rfl Tryz.underlying55 Tryz.underlying9 rfl HM2.out qk qv rfl rfl (w0 := w2) (B := 0) (Below.refl _ _) (Nat.zero_le _) ?_; intro w3 hm3 hb3 hg3 hs3; have HM3 := Aside0.mk hm3; have HG3 := Aside0.mk hg3; clear hm3 hb3 hg3 hs3))
        go_frame
        go_roundw
        case rel => exact ⟨put m qk qv, del rm qk, _, ⟨HK.out.fresh HR.out H.out HQ.out HH.out HT2'.out HG2.out HM3.out HG3.out⟩⟩
        case measure =>
          rw [(HK.out.fresh HR.out H.out HQ.out HH.out HT2'.out HG2.out HM3.out HG3.out).rng.left_eq, H.out.rng.left_eq]
          exact HLL.out
      | true =>
        obtain ⟨v1, hv1⟩ := keys_lookB (has_iff.1 hh)
        have hrm : SM.has rm qk = true := has_iff.2 (List.mem_map_of_mem (f := fun q : ByteArray × AV => q.1) HQ.out)
        obtain ⟨x, hx, hfx⟩ := H.out.kid qk v1 hv1
        rw [if_pos hrm] at hx
        obtain ⟨y, hy, hfy⟩ := H.out.left qk qv (look_mem (p := (qk, qv)) H.out.rng.map.nodup (rng_mem_of H.out.rng HQ.out)) hrm
        have hka : qk ∈ a.f3 := by
          rcases (H.out.keys qk).1 (has_iff.1 hh) with h | ⟨_, h⟩
          · exact h
          · rw [hrm] at h; cases h
        have hkb : qk ∈ b.f3 := (HK.out.k2 qk).1 (List.mem_map_of_mem (f := fun q : ByteArray × AV => q.1) (rng_mem_of H.out.rng HQ.out))
        obtain ⟨u, hu⟩ := kid_some HZL.out ((HK.out.hk qk).2 (.inl hka))
        have HC := Lib.hid (H3.out qk x y u hx hy hu)
        have HSZ := Lib.hid (HS.out qk hka hkb)
        have HFX : Aside0 (FromF w2 (G qk) v1 x) := ⟨hfx.kept (fun n hn hlt => HG2.out.block n hlt (fun e => by injection e with e; exact (HK.out.footG HR.out H.out hn).2.2.1 e))⟩
        have HFY : Aside0 (FromF w2 (Q2 qk) qv y) := ⟨hfy.kept (fun n hn hlt => HG2.out.block n hlt (fun e => by injection e with e; have h1 := HR.out; have h2 := HK.out.l2 _ (HK.out.q2 _ _ hn); omega))⟩
        have HU := Lib.hid hu
        have HH := Lib.hid hh
        have HRM := Lib.hid hrm
        clear hrm hx hfx hy hfy hka hkb hu
        go_wp2_with (first | fail | (at_lookup; refine wp_look rfl _ _ true rfl Tryz.underlying55 Tryz.underlying9 rfl HM2.out qk rfl hz2 ?_; rw [if_pos rfl, hv1, hh]; simp only [Option.map_some, Option.getD_some]))
        clear hv1 hh hz2
        refine (tree_NextG p qk w2 HP.out HSZ.out).mono ?_
        rintro e w3 ⟨rfl, hb3⟩
        have HB3 := Aside0.mk hb3
        have HFX3 := Aside0.mk (HFX.out.below_ hb3)
        have HFY3 := Aside0.mk (HFY.out.below_ hb3)
        clear hb3
        have hl1 : ∀ n, G qk n → n < w3.heap.size := fun n hn => Nat.lt_of_lt_of_le (HK.out.footG HR.out H.out hn).2.2.2 (Nat.le_trans HG2.out.size HB3.out.size)
        have hl2 : ∀ n, Q2 qk n → n < w3.heap.size := fun n hn => Nat.lt_of_lt_of_le (HK.out.l2 _ (HK.out.q2 _ _ hn)) (Nat.le_trans H.out.only.size (Nat.le_trans HG2.out.size HB3.out.size))
        have hd : ∀ n, G qk n → ¬ Q2 qk n := fun n hn hq2 => by
          rcases (H.out.foot _ _ hn).2 with h4 | ⟨h4, _⟩ | h4
          · exact HK.out.dis _ (HK.out.q1 _ _ h4) (HK.out.q2 _ _ hq2)
          · rw [HRM.out] at h4; cases h4
          · have h1 := HK.out.l2 _ (HK.out.q2 _ _ hq2); have h2 := HR.out; omega
        have HCC := Lib.hid (MYC.use HC.out HFX3.out HFY3.out hl1 hl2 hd)
        clear hl1 hl2 hd
        go_wp2_with fail
        refine HCC.out.mono ?_
        rintro e w6 ⟨v6, rfl, hv6, ho6⟩
        have HV6 := Aside0.mk hv6
        have HO6 := Aside0.mk ho6
        have HM6 : Aside0 (TMap w6 b1 AV.enc m) := ⟨SMap.move HM2.out ((ho6.block b1 (by have := HM2.out.lt; have := HB3.out.size; omega) (fun hG => (HK.out.footG HR.out H.out hG).1 rfl)).trans (HB3.out.block b1 HM2.out.lt))⟩
        clear hv6 ho6
        go_wp2_with (at_mapUpdate; refine wp_put rfl _ _ _ rfl Tryz.underlying55 Tryz.underlying9 rfl HM6.out qk v6 rfl rfl (w0 := w6) (B := 0) (Below.refl _ _) (Nat.zero_le _) ?_; intro w7 hm7 hb7 hg7 hs7; have HM7 := Aside0.mk hm7; have HG7 := Aside0.mk hg7; clear hm7 hb7 hg7 hs7)
        go_frame
        have HF := Aside0.mk (HK.out.both HR.out H.out HQ.out HH.out HU.out HT2'.out HG2.out HB3.out HV6.out HO6.out HM7.out HG7.out)
        go_roundw
        case rel => exact ⟨put m qk v6, del rm qk, _, HF⟩
        case measure =>
          rw [HF.out.rng.left_eq, H.out.rng.left_eq]
          exact HLL.out
set_option maxRecDepth 100000 in
theorem override_null {p : ByteArray} {a b : IV} (hn : NoRule p) (h0 : b.f0 = 0) : MYC p a b a := by
  intro w u1 u2 P1 P2 f1 f2 l1 l2 hd
  have e2 : u2 = .nil := by
    cases f2 with
    | nil => rfl
    | bool b => cases h0
    | int b => cases h0
    | text b => cases h0
    | list Q => cases h0
    | map Q => cases h0
  subst e2
  have HF1 := Aside0.mk f1
  have HN := Lib.hid hn
  clear f1 f2 l1 l2 hd h0 hn
  unfold AV.enc
  obtain ⟨e1, he1⟩ : ∃ e, e = u1.enc := ⟨_, rfl⟩
  have HE := Lib.hid he1
  have hen : AV.enc u1 = e1 := he1.symm
  unfold AV.enc at hen
  rw [hen]
  clear he1 hen
  go_enter Tryz.func41, Tryz.ntmps41
  go_wp2_with fail
  refine (override_special HN.out w).mono ?_
  rintro e w1 ⟨rfl, hb1⟩
  have HB := Aside0.mk hb1
  clear hb1
  go_wp2
  go_ret2
  exact ⟨u1, by rw [HE.out]; rfl, (HF1.out.below_ HB.out).imp (fun _ h => .inl h), Only.of_below HB.out⟩
set_option maxHeartbeats 1000000 in
set_option maxRecDepth 100000 in
theorem override_two {p : ByteArray} {a b z : IV} (hn : NoRule p) (ha : a.f0 = 5) (hb : b.f0 = 5) (hz : Fine z) (h5 : z.f0 = 5) (hk : ∀ k, k ∈ z.f3 ↔ k ∈ a.f3 ∨ k ∈ b.f3) (h1 : ∀ k, k ∉ b.f3 → kidI z k = kidI a k) (h2 : ∀ k, k ∉ a.f3 → kidI z k = kidI b k)
      (hs : ∀ k, k ∈ a.f3 → k ∈ b.f3 → k.size ≤ 2147483647) (h3 : ∀ k x y u, kidI a k = some x → kidI b k = some y → kidI z k = some u → MYC (nextP p k) x y u) : MYC p a b z := by
  intro w u1 u2 P1 P2 f1 f2 l1 l2 hd
  obtain ⟨b1, m1, Q1, rfl, t1, p1, n1, q1, d1, k1, e1⟩ := f1.unmap ha
  obtain ⟨b2, m2, Q2, rfl, t2, p2, n2, q2, d2, k2, e2⟩ := f2.unmap hb
  have HS := Lib.hid (override_special hn w)
  have HM := Lib.hid (fun (W : World) (hW : Below w.heap.size w W) => override_maps (w := W) (P1 := P1) (P2 := P2) (Q1 := Q1) (Q2 := Q2) (b1 := b1) (b2 := b2) (m1 := m1) (m2 := m2) ⟨hz, h5, hk, h1, h2, k1, k2, t1.below hW, t2.below hW, fun k u h => (by obtain ⟨x, hx, hf⟩ := e1 k u h; exact ⟨x, hx, hf.below_ hW⟩), fun k u h => (by obtain ⟨x, hx, hf⟩ := e2 k u h; exact ⟨x, hx, hf.below_ hW⟩), fun n h => Nat.lt_of_lt_of_le (l1 n h) hW.size, fun n h => Nat.lt_of_lt_of_le (l2 n h) hW.size, hd, p1, p2, q1, q2, n1, n2, d1, d2⟩ hn.size hs h3 (by cases hz with
    | nil => cases h5
    | bool b => cases h5
    | int b => cases h5
    | text b => cases h5
    | list _ _ => cases h5
    | map ha hl _ _ => exact hl))
  clear f1 f2 l1 l2 hd t1 p1 n1 q1 d1 k1 e1 t2 p2 n2 q2 d2 k2 e2 hn ha hb hz h5 hk h1 h2 hs h3
  unfold AV.enc
  go_enter Tryz.func41, Tryz.ntmps41
  go_wp2_with fail
  refine HS.out.mono ?_
  rintro e w1 ⟨rfl, hb1⟩
  have HB := Aside0.mk hb1
  clear hb1
  have a1 := as_map 20 w1 (.map (some b1))
  have a2 := as_map 20 w1 (.map (some b2))
  go_wp2_with fail
  refine (HM.out w1 HB.out).mono ?_
  rintro e w2 ⟨rfl, hf, ho⟩
  have HF := Aside0.mk hf
  have HO := Aside0.mk ho
  clear hf ho a1 a2
  go_wp2
  go_ret2
  refine ⟨.map b1, rfl, HF.out.imp (fun n hn => ?_), (Only.of_below (P := fun _ => False) HB.out |> fun q => (⟨q.os, q.tape, q.output, q.size, fun k hk _ => q.block k hk (fun h => h)⟩ : Only P1 w w1)).trans HO.out (fun q h _ => h)⟩
  have := HB.out.size
  rcases hn with hn | hn | hn
  · exact .inl hn
  · exact .inr (.inl hn)
  · exact .inr (.inr ⟨by omega, hn.2⟩)
set_option maxRecDepth 100000 in
theorem override_last {p : ByteArray} {a b : IV} (hn : NoRule p) (h0 : b.f0 ≠ 0) (h4 : a.f0 ≠ 4) (h5 : a.f0 ≠ 5) : MYC p a b b := by
  intro w u1 u2 P1 P2 f1 f2 l1 l2 hd
  have HF2 := Aside0.mk f2
  have HS := Lib.hid (override_special hn w)
  have n1 : ∀ w1 : World, (Instr.typeAssert u1.enc 20 55 true).run Tryz.prog w1 = .ok (.tuple #[.map none, .bool false]) w1 := fun w1 => by
    cases f1 with
    | nil => exact nil_mapM w1
    | bool b => exact no_map (w := w1) (xT := 20) _ _ (by decide)
    | int b => exact no_map (w := w1) (xT := 20) _ _ (by decide)
    | text b => exact no_map (w := w1) (xT := 20) _ _ (by decide)
    | list Q => exact absurd rfl h4
    | map Q => exact absurd rfl h5
  have n2 : ∀ w1 : World, (Instr.typeAssert u1.enc 20 48 true).run Tryz.prog w1 = .ok (.tuple #[.slice none 0 0, .bool false]) w1 := fun w1 => by
    cases f1 with
    | nil => exact nil_listM w1
    | bool b => exact no_list (w := w1) (xT := 20) _ _ (by decide)
    | int b => exact no_list (w := w1) (xT := 20) _ _ (by decide)
    | text b => exact no_list (w := w1) (xT := 20) _ _ (by decide)
    | list Q => exact absurd rfl h4
    | map Q => exact absurd rfl h5
  have hz : u2 ≠ .nil := fun e => by
    subst e
    cases f2
    exact h0 rfl
  have N1 := Lib.hid n1
  have N2 := Lib.hid n2
  clear f1 f2 l1 l2 hd n1 n2 h0 h4 h5 hn
  obtain ⟨c1, hc1⟩ : ∃ e, e = u1.enc := ⟨_, rfl⟩
  rw [← hc1] at N1 N2
  rw [← hc1]
  clear hc1
  cases u2 with
  | nil => exact absurd rfl hz
  | _ =>
    clear hz
    unfold AV.enc
    go_enter Tryz.func41, Tryz.ntmps41
    go_wp2_with fail
    refine HS.out.mono ?_
    rintro e w1 ⟨rfl, hb1⟩
    have HB := Aside0.mk hb1
    clear hb1
    have a1 := N1.out w1
    have a2 := N2.out w1
    go_wp2
    go_ret2
    exact ⟨_, rfl, (HF2.out.below_ HB.out).imp (fun _ h => .inr (.inl h)), Only.of_below HB.out⟩
/-- a merge, wherever no rule is for a path and no two lists meet -/
theorem override_yaml {p : ByteArray} {a b z : IV} (h : Mrg p a b z) : MYC p a b z := by
  induction h with
  | null hn h0 => exact override_null hn h0
  | last hn h0 h4 h5 => exact override_last hn h0 h4 h5
  | map hn ha hb hz h5 hk h1 h2 hs h3 ih => exact override_two hn ha hb hz h5 hk h1 h2 hs ih
end Go.Proofs.YtiamiagjkfioiaaGreatDoor.A
