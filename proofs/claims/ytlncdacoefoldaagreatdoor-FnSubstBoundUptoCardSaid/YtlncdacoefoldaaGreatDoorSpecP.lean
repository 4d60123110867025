/- The walk of spec.substOne where a brace stands behind the dollar (printed by gen_speco.py). -/
import Derived.Test.YtlncdacoefoldaaGreatDoorSpecP0
import Derived.Test.YtlncdacoefoldaaGreatDoorSpecP1
import Derived.Test.YtlncdacoefoldaaGreatDoorSpecP2
import Derived.Test.YtlncdacoefoldaaGreatDoorSpecP3
import Derived.Test.YtlncdacoefoldaaGreatDoorSpecP4
import Derived.Test.YtlncdacoefoldaaGreatDoorSpecP5
import Derived.Test.YtlncdacoefoldaaGreatDoorSpecP6
namespace Go.Proofs.YtlncdacoefoldaaGreatDoor.U
set_option linter.unusedVariables false
set_option linter.unusedSimpArgs false
set_option linter.unusedSectionVars false
open Go.RowKit Go.Proofs.YtlncdacoefoldaaGreatDoorW.PrintWords Go.Proofs.YtlncdacoefoldaaGreatDoorW.PrintLast Go.Proofs.YtlncdacoefoldaaGreatDoor.PX Go.Proofs.YtlncdacoefoldaaGreatDoor.L Go.Proofs.YtlncdacoefoldaaGreatDoor.M

set_option maxHeartbeats 40000000 in
set_option maxRecDepth 100000 in
theorem spec_substOne_brace (E : Env) (m : Nat) (A1 : Option Addr) (c1 : Nat) (b : List SP) (s : ByteArray) (x a y : Nat) (w : World) (hr1 : Kd.C k59 w A1 b.length b) (hc1 : b.length ≤ c1) (hb : b.length ≤ 2147483647) (hE : ∀ n, E n = (lastP b (mk n)).map (fun x => x.f1.data.toList))
    (ha : a = x + 1) (hx : a < s.size) (hsz : s.size ≤ 17592186044416) (hm : s.size ≤ m) (hy : y = x + 2) (d : UInt8) (hd : d = 123) (r : Bs) (hq : D s a = d :: r)
    (hsub : ∀ (t : ByteArray) (W : World), t.size < m → t.size < s.size → Below w.heap.size w W → Calls Tryz.prog 14 #[.string t, .slice A1 b.length c1] W fun e w' => ∃ out cls said, e = .returned (.tuple #[.string out, .int .i64 cls, .bool said]) ∧ SaidS (subS E m t.data.toList) out cls said ∧ Below W.heap.size W w') :
    Calls Tryz.prog 33 #[.string s, .int .i64 x, .slice A1 b.length c1] w fun e w' => ∃ val en cls said, e = .returned (.tuple #[.string val, .int .i64 en, .int .i64 cls, .bool said]) ∧ SaidO x (oneS (subS E m) E (d :: r)) val en cls said ∧ Below w.heap.size w w' := by
  by_cases h : ((far r = false ∧ far (r.drop (subE r)) = false ∧ ¬ (subE r = 0 ∨ r.length = subE r)) ∧ ∃ q qs, r.drop (subE r) = q :: qs ∧ ((q = 58 ∧ ∃ g ws, qs = g :: ws ∧ isS g = true) ∨ (q ≠ 125 ∧ q ≠ 58 ∧ isS q = true)))
  · obtain ⟨⟨h1, h2, h3⟩, q, qs, h4, h5⟩ := h
    rcases h5 with ⟨h6, g, ws, h7, h8⟩ | ⟨-, -, h8⟩
    · rcases (isS_cases g).1 h8 with h9 | h9 | h9
      · exact word_t_45 E m A1 c1 b s x a y w hr1 hc1 hb hE ha hx hsz hm hy d hd r hq h1 h2 h3 q qs h4 h6 g ws h7 h9 hsub
      · exact word_t_43 E m A1 c1 b s x a y w hr1 hc1 hb hE ha hx hsz hm hy d hd r hq h1 h2 h3 q qs h4 h6 g ws h7 h9 hsub
      · exact word_t_63 E m A1 c1 b s x a y w hr1 hc1 hb hE ha hx hsz hm hy d hd r hq h1 h2 h3 q qs h4 h6 g ws h7 h9 hsub
    · rcases (isS_cases q).1 h8 with h9 | h9 | h9
      · exact word_f_45 E m A1 c1 b s x a y w hr1 hc1 hb hE ha hx hsz hm hy d hd r hq h1 h2 h3 q qs h4 h9 hsub
      · exact word_f_43 E m A1 c1 b s x a y w hr1 hc1 hb hE ha hx hsz hm hy d hd r hq h1 h2 h3 q qs h4 h9 hsub
      · exact word_f_63 E m A1 c1 b s x a y w hr1 hc1 hb hE ha hx hsz hm hy d hd r hq h1 h2 h3 q qs h4 h9 hsub
  · exact brace_base E m A1 c1 b s x a y w hr1 hc1 hb hE ha hx hsz hm hy d hd r hq h hsub
end Go.Proofs.YtlncdacoefoldaaGreatDoor.U
