/- The maps of this seat: how their elements read; field (12), ZZfield (7); the makers (6, 9, 10, 11). -/
import Derived.Test.Qxb6612814aRows
import Derived.WalkKit
import Derived.WalkSpells
import Derived.WalkLawsBesides
import Derived.Below
import Derived.OwnWalk
import Derived.Deep.DeepFit
import Derived.Maps.Own
import Derived.Maps.OwnSet
import Derived.Maps.StringElems
namespace Go.Proofs.Qxb6612814a
open Go.RowKit Go.Maps

def kOf (s : ByteArray) : Lit := .string s.data.toList
def dOf (s : ByteArray) : DataW Unit := .lit (.string s.data.toList)
theorem kOf_key (s : ByteArray) : WideAt.IsKeyLit (kOf s) := trivial
theorem kOf_inj {s t : ByteArray} (h : kOf s = kOf t) : s = t := by
  unfold kOf at h
  have h1 : s.data.toList = t.data.toList := by injection h
  cases s; cases t
  simp at h1
  subst h1; rfl
theorem kOf_ne {s t : ByteArray} (h : ¬ s = t) : kOf s ≠ kOf t := fun e => h (kOf_inj e)
theorem dOf_inj {s t : ByteArray} (h : dOf s = dOf t) : s = t := by
  unfold dOf at h
  have h1 : s.data.toList = t.data.toList := by
    injection h with h
    injection h
  cases s; cases t
  simp at h1
  subst h1; rfl

/-- how an element reads: nil, a string, an int -/
def RA : Value → Option (DataW Unit × List MemPlace)
  | .nilIface => some (.nil, [])
  | .iface 9 (.string s) => if s.size ≤ maxLen then some (dOf s, []) else .none
  | .iface 3 (.int .i64 n) => some (.lit (.int .i64 n), [])
  | _ => .none
theorem RA_mk {s : ByteArray} (h : s.size ≤ maxLen) : RA (.iface 9 (.string s)) = some (dOf s, []) := by simp [RA, h]
theorem RA_int (n : Int) : RA (.iface 3 (.int .i64 n)) = some (.lit (.int .i64 n), []) := rfl
theorem RA_inv {v : Value} {y : DataW Unit × List MemPlace} (h : RA v = some y) : (v = .nilIface ∧ y = (.nil, [])) ∨ (∃ s : ByteArray, v = .iface 9 (.string s) ∧ y = (dOf s, [])) ∨ ∃ n : Int, v = .iface 3 (.int .i64 n) ∧ y = (.lit (.int .i64 n), []) := by
  unfold RA at h
  split at h
  · exact .inl ⟨rfl, (Option.some.inj h).symm⟩
  · split at h
    · exact .inr (.inl ⟨_, rfl, (Option.some.inj h).symm⟩)
    · cases h
  · exact .inr (.inr ⟨_, rfl, (Option.some.inj h).symm⟩)
  · cases h
theorem law9 : Keyed Try.prog 9 := string_keyed Try.underlying9
theorem key9 {s : ByteArray} (h : s.size ≤ maxLen) : keyOf Try.prog 9 (.string s) = some (kOf s) := WideMaps.keyOf_string_mk Try.underlying9 h

theorem zero20 (w : World) : (zeroValue 20).run Try.prog w = .ok .nilIface w := by kernel_rfl
theorem assert_str (u : ByteArray) (w : World) : (Instr.typeAssert (.iface 9 (.string u)) 20 9 true).run Try.prog w = .ok (.tuple #[.string u, .bool true]) w := by kernel_rfl
theorem assert_int (n : Int) (w : World) : (Instr.typeAssert (.iface 3 (.int .i64 n)) 20 9 true).run Try.prog w = .ok (.tuple #[.string ByteArray.empty, .bool false]) w := by kernel_rfl
theorem assert_nil (w : World) : (Instr.typeAssert .nilIface 20 9 true).run Try.prog w = .ok (.tuple #[.string ByteArray.empty, .bool false]) w := by kernel_rfl

/-- what field reads where d stands -/
def Reads (d : DataW Unit) (u : ByteArray) : Prop := d = dOf u ∨ (u = ByteArray.empty ∧ (d = .nil ∨ ∃ n : Int, d = .lit (.int .i64 n)))

theorem field_look {w : World} {b N : Nat} {D : DataW Unit} {name u : ByteArray} (h : w.ownsMap Try.prog 9 RA b N D) (hn : name.size ≤ maxLen) (hu : Reads (D.atKey (kOf name) .nil) u) :
    ∃ v t, (Instr.lookup 24 (.map (some b)) (.string name) false).run Try.prog w = .ok v w ∧ (Instr.typeAssert v 20 9 true).run Try.prog w = .ok (.tuple #[.string u, .bool t]) w := by
  obtain ⟨v, ps, hrun, hv⟩ := h.lookup law9 Try.underlying24 (zero20 w) (show RA .nilIface = some (.nil, []) from rfl) (key9 hn)
  rcases RA_inv hv with ⟨rfl, hy⟩ | ⟨s, rfl, hy⟩ | ⟨n, rfl, hy⟩
  · have e : D.atKey (kOf name) .nil = .nil := congrArg Prod.fst hy
    rw [e] at hu
    rcases hu with hu | ⟨rfl, _⟩
    · cases hu
    · exact ⟨_, false, hrun, assert_nil w⟩
  · have e : D.atKey (kOf name) .nil = dOf s := congrArg Prod.fst hy
    rw [e] at hu
    rcases hu with hu | ⟨_, hu | ⟨n, hu⟩⟩
    · rw [← dOf_inj hu]; exact ⟨_, true, hrun, assert_str s w⟩
    · cases hu
    · cases hu
  · have e : D.atKey (kOf name) .nil = .lit (.int .i64 n) := congrArg Prod.fst hy
    rw [e] at hu
    rcases hu with hu | ⟨rfl, _⟩
    · cases hu
    · exact ⟨_, false, hrun, assert_int n w⟩

set_option maxRecDepth 100000 in
theorem field_any (b N : Nat) (D : DataW Unit) (name u : ByteArray) (w : World) (h : w.ownsMap Try.prog 9 RA b N D) (hn : name.size ≤ maxLen) (hu : Reads (D.atKey (kOf name) .nil) u) :
    Calls Try.prog 12 #[.map (some b), .string name] w fun e w' => e = .returned (.string u) ∧ w' = w := by
  obtain ⟨v, t, h1, h2⟩ := field_look h hn hu
  go_enter Try.func12, Try.ntmps12
  go_wp2
  go_ret
  exact ⟨rfl, rfl⟩
set_option maxRecDepth 100000 in
theorem zzfield_any (b N : Nat) (D : DataW Unit) (name u : ByteArray) (w : World) (h : w.ownsMap Try.prog 9 RA b N D) (hn : name.size ≤ maxLen) (hu : Reads (D.atKey (kOf name) .nil) u) :
    Calls Try.prog 7 #[.map (some b), .string name] w fun e w' => e = .returned (.string u) ∧ w' = w := by
  go_enter Try.func7, Try.ntmps7
  go_wp2_with (first | (go_at_call 12; go_fit (field_any b N D name u w h hn hu); rintro e w1 ⟨rfl, hw⟩; replace hw := hw.symm; subst hw))
  go_ret
  exact ⟨rfl, rfl⟩

theorem look_nil (name : ByteArray) (w : World) : (Instr.lookup 24 (.map .none) (.string name) false).run Try.prog w = .ok .nilIface w := by kernel_rfl
set_option maxRecDepth 100000 in
theorem field_nil (name : ByteArray) (w : World) : Calls Try.prog 12 #[.map .none, .string name] w fun e w' => e = .returned (.string ByteArray.empty) ∧ w' = w := by
  have h1 := look_nil
  have h2 := assert_nil
  go_enter Try.func12, Try.ntmps12
  go_wp2
  go_ret
  exact ⟨rfl, rfl⟩
set_option maxRecDepth 100000 in
theorem zzfield_nil (name : ByteArray) (w : World) : Calls Try.prog 7 #[.map .none, .string name] w fun e w' => e = .returned (.string ByteArray.empty) ∧ w' = w := by
  go_enter Try.func7, Try.ntmps7
  go_wp2_with (first | (go_at_call 12; go_fit (field_nil name w); rintro e w1 ⟨rfl, hw⟩; replace hw := hw.symm; subst hw))
  go_ret
  exact ⟨rfl, rfl⟩

/-- an entry of a map literal -/
theorem wpList_insert_own {H : Type} {P : Program} (w : World) {ops : Array Oper} {rest : List Oper} {o : Oper} {a : Act} {Q : Exit → Act → World → Prop}
    (hg : o.guard = .none) (m x v : Operand) (t : TypeId) (hop : o.op = Op.insert t m x v)
    (k e : TypeId) (K : Keyed P k) (ht : P.underlying t = some (.map k e)) (R : Value → Option (DataW H × List MemPlace)) (b n : Nat) (D : DataW H)
    (hm : a.eval m = .map (some b)) (hown : w.ownsMap P k R b n D) (hn : n < maxLen) (key val : Value) (kl : Lit) (hx : a.eval x = key) (hv : a.eval v = val) (hkey : keyOf P k key = some kl)
    (d : DataW H) (ps : List MemPlace) (hval : R val = some (d, ps))
    (hK : ∀ w', w'.ownsMap P k R b (n + 1) (D.put kl d) → w.grownBy w' (some b) → wpList P ops Q rest (a.put o.dst undef) w') :
    wpList P ops Q (o :: rest) a w := by
  refine wpList_plain hg fun K' hK' => ?_
  obtain ⟨w', hrun, r1, r2⟩ := hown.update K ht hn hkey hval
  unfold Oper.wp
  simp [execOp, hop, hm, hx, hv, hrun, Result.andThen]
  exact hK' _ _ (hK w' r1 r2)
end Go.Proofs.Qxb6612814a
