import Derived.Test.YtfkecmlmnhbmoaaGreatDoorFk50
import Derived.ProofKit
import Derived.OpenShut
import Derived.LaidMore
import Derived.Lay
import Derived.OpenVars
import Derived.Carry
import Derived.Stop.LaidErr
import Derived.Stop.Joined
import Derived.Lib.SmallJoins
namespace Go.Proofs.YtfkecmlmnhbmoaaGreatDoor
open Go.ChangeShapes Go.WideShapes Go.ChangeAt Go.RowKit Go.Lib
theorem tOwn : ownKnob Tryz.prog.godebug = none := by kernel_rfl
theorem tLaidOut : laidOutB Tryz.prog = true := by kernel_rfl
theorem tRead26 : Tryz.prog.readableRec 26 = true := by kernel_rfl
theorem tRow26 : 26 < Tryz.prog.types.size := of_decide_eq_true (by kernel_rfl)
theorem varsLen {H : Type} {enc : TypeId × Value → H} {P : Program} {W : World} {sp : Nat → Bool} : ∀ {ns : List String} {gs : List (DataW H)} {ps : List MemPlace}, DataW.TrodVars enc P W sp ns gs ps → gs.length = ns.length
  | [], [], _, _ => rfl
  | [], _ :: _, _, h => h.elim
  | _ :: _, [], _, h => h.elim
  | _ :: _, _ :: _, _, ⟨_, _, _, _, _, _, _, _, _, _, h, _⟩ => congrArg (· + 1) (varsLen h)
set_option maxRecDepth 100000 in
/-- A parameter that is an object. -/
theorem openParam {H : Type} {enc : TypeId × Value → H} {W : World} {spare : Nat → Bool} {held : Bool} {r : Reach} {b0 : Nat} {v : Value} {d : DataW H} {p : List MemPlace} (hval : Value.okWide Tryz.prog W r b0 26 v) (h : DataW.Trod enc Tryz.prog W 0 spare held 26 v d p) (hw : ∀ x ∈ d.weights Tryz.prog 26, x ≤ reachBytes) :
    ∃ k i g r s keys kids ka kc a cap, v = .agg #[.int .i64 k, .int .i64 i, .int .i64 g, .float .f64 r, .string s, .slice ka (keys : List ByteArray).length kc, .slice a (kids : F).len cap] ∧ Node (Lt W.heap.size) W k i g r s keys kids ka kc a cap := by
  obtain ⟨cs, rfl, _⟩ := okWide_struct Tryz.underlying26 hval
  obtain ⟨fuel, hf⟩ := h
  obtain ⟨k, i, g, r, s, keys, kids, ka, kc, a, cap, hc, hn⟩ := openObj fuel _ _ _ hf hw
  refine ⟨k, i, g, r, s, keys, kids, ka, kc, a, cap, ?_, hn⟩
  have h2 : cs.toList = [.int .i64 k, .int .i64 i, .int .i64 g, .float .f64 r, .string s, .slice ka keys.length kc, .slice a kids.len cap] := by simpa [Value.cells] using hc
  obtain ⟨l⟩ := cs
  subst h2
  rfl
/-- The listed variables, as the reals' functions want them. -/
theorem tbBy {w : World} {es : List (DataW Unit)} {d : DataW Unit} (hl : es.length = 23) (h10 : VarReads Tryz.prog w "internal/strconv.optimize" (.lit (.bool true))) (h2 : VarReads Tryz.prog w "internal/strconv.uint64pow10" (tabData .u64 Lib.pow10Tab))
    (h18 : VarReads Tryz.prog w "internal/strconv.float64info" (.agg [.lit (.int .u64 52), .lit (.int .u64 11), .lit (.int .i64 (-1023))])) (h24 : VarReads Tryz.prog w "internal/strconv.pow10Tab" d) (h23 : VarReads Tryz.prog w "internal/strconv.float64pow10" (.slice es []))
    (h22 : VarReads Tryz.prog w "internal/strconv.powtab" (.slice (ptab.map fun (x : Nat) => .lit (.int .i64 (x : Int))) [])) (h25 : VarReads Tryz.prog w "internal/strconv.leftcheats" Go.Pinned.leftcheats) : Tb w.heap.size w := by
  have c25 := cheatBy h25
  have hlow : 25 < w.heap.size := by
    obtain ⟨b, o, cap, _, h, _⟩ := c25
    exact lt_cell h
  obtain ⟨i0, i1, i2⟩ := infoBy h18
  exact ⟨⟨hlow, optBy h10, tabBy h2, tenBy h24, i0, i1, i2⟩, ⟨hlow, powBy hl h23⟩, ⟨hlow, powtBy h22⟩, c25⟩
end Go.Proofs.YtfkecmlmnhbmoaaGreatDoor
