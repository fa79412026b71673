/- Revisions: parts in a row; validateFullRevision. -/
import Derived.Test.YtiibeefadgmicaaDoorRevN
namespace Go.Proofs.YtiibeefadgmicaaDoor.rev
open Go.RowKit Go.Proofs.YtiibeefadgmicaaDoorW.PrintWords Go.Proofs.YtiibeefadgmicaaDoorW.PrintLast Go.Proofs.YtiibeefadgmicaaDoorW.PrintMore Go.Proofs.YtiibeefadgmicaaDoor.PFnRevSteps
set_option linter.unusedVariables false
set_option linter.unusedSimpArgs false
set_option maxHeartbeats 2000000
set_option maxRecDepth 100000
/-- A part of a revision. -/
inductive Rev where
  | ref (s : List UInt8)
  | tilde (n : Int)
  | caret (n : Int)
  | ctype (s : List UInt8)
  | up
  | push
def rv : Rev → Value
  | .ref s => .iface 59 (.string (txt s))
  | .tilde n => .iface 61 (.agg #[.int .i64 n])
  | .caret n => .iface 62 (.agg #[.int .i64 n])
  | .ctype s => .iface 66 (.agg #[.string (txt s)])
  | .up => .iface 70 (.agg #[.string ⟨#[]⟩])
  | .push => .iface 71 (.agg #[.string ⟨#[]⟩])
theorem rv_one (x : Rev) : (rv x).oneCell' = true := by cases x <;> rfl
def kV : Kd Rev where
  sz := 1
  E := []
  K := fun _ x cs => cs = [rv x]
  M := fun _ _ _ x cs => cs = [rv x]
  K_len := fun h => by rw [h]; rfl
  K_one := fun h => by rw [h]; intro u hu; rw [List.mem_singleton.1 hu]; exact rv_one _
  K_below := fun _ h => h
  K_of_M := fun h => h
  M_mono := fun _ h => h
  M_bound := fun h => h
  M_move := fun _ h => h
  M_lower := fun _ h => h
theorem at_V {w : World} {A : Option Addr} {n : Nat} {l : List Rev} (h : kV.C w A n l) (i : Nat) (hi : i < l.length) : ∃ ad, A = some ad ∧ w.cell? (ad.add i) = some (rv l[i]) := by
  obtain ⟨hn, hm, h3⟩ := h
  obtain ⟨ad, rfl, h4⟩ := h3 (by omega)
  obtain ⟨ci, _, hk, hc⟩ := h4 i _ (List.getElem?_eq_getElem hi)
  refine ⟨ad, rfl, ?_⟩
  have hk' : ci = [rv l[i]] := hk
  have := hc 0 (rv l[i]) (by rw [hk']; rfl)
  rw [show i * kV.sz + 0 = i from Nat.mul_one i] at this
  exact this
/-- Parts that are in order. -/
def Fine (l : List Rev) : Prop := ∃ s r, l = .ref s :: r ∧ ((∀ x ∈ r, (∃ n, x = .tilde n) ∨ (∃ n, x = .caret n) ∨ ∃ k, x = .ctype k) ∨ r = [.up] ∨ r = [.push])
/-- What the switch over a part's type says of Ref. -/
theorem tas_Ref : (∀ (v : Value) (w : World), (Instr.typeAssert (.iface 59 v) 47 59 true).run Tryd.prog w = .ok (.tuple #[v, .bool true]) w) ∧ (∀ (v : Value) (w : World), (Instr.typeAssert (.iface 59 v) 47 75 true).run Tryd.prog w = .ok (.tuple #[.agg #[.int .i64 0, .int .i64 0, .int .i64 0], .bool false]) w) ∧ (∀ (v : Value) (w : World), (Instr.typeAssert (.iface 59 v) 47 67 true).run Tryd.prog w = .ok (.tuple #[.agg #[.int .i64 0], .bool false]) w) ∧ (∀ (v : Value) (w : World), (Instr.typeAssert (.iface 59 v) 47 68 true).run Tryd.prog w = .ok (.tuple #[.agg #[.int .i64 0], .bool false]) w) ∧ (∀ (v : Value) (w : World), (Instr.typeAssert (.iface 59 v) 47 70 true).run Tryd.prog w = .ok (.tuple #[.agg #[.string ⟨#[]⟩], .bool false]) w) ∧ (∀ (v : Value) (w : World), (Instr.typeAssert (.iface 59 v) 47 71 true).run Tryd.prog w = .ok (.tuple #[.agg #[.string ⟨#[]⟩], .bool false]) w) ∧ (∀ (v : Value) (w : World), (Instr.typeAssert (.iface 59 v) 47 61 true).run Tryd.prog w = .ok (.tuple #[.agg #[.int .i64 0], .bool false]) w) ∧ (∀ (v : Value) (w : World), (Instr.typeAssert (.iface 59 v) 47 62 true).run Tryd.prog w = .ok (.tuple #[.agg #[.int .i64 0], .bool false]) w) ∧ (∀ (v : Value) (w : World), (Instr.typeAssert (.iface 59 v) 47 64 true).run Tryd.prog w = .ok (.tuple #[.agg #[.string ⟨#[]⟩, .bool false], .bool false]) w) ∧ (∀ (v : Value) (w : World), (Instr.typeAssert (.iface 59 v) 47 66 true).run Tryd.prog w = .ok (.tuple #[.agg #[.string ⟨#[]⟩], .bool false]) w) ∧ (∀ (v : Value) (w : World), (Instr.typeAssert (.iface 59 v) 47 78 true).run Tryd.prog w = .ok (.tuple #[.agg #[.string ⟨#[]⟩, .bool false], .bool false]) w) ∧ (∀ (v : Value) (w : World), (Instr.typeAssert (.iface 59 v) 47 80 true).run Tryd.prog w = .ok (.tuple #[.agg #[.string ⟨#[]⟩], .bool false]) w) ∧ (∀ (v : Value) (w : World), (Instr.typeAssert (.iface 59 v) 47 82 true).run Tryd.prog w = .ok (.tuple #[.agg #[.string ⟨#[]⟩, .int .i64 0], .bool false]) w) :=
  ⟨fun _ _ => by kernel_rfl, fun _ _ => by kernel_rfl, fun _ _ => by kernel_rfl, fun _ _ => by kernel_rfl, fun _ _ => by kernel_rfl, fun _ _ => by kernel_rfl, fun _ _ => by kernel_rfl, fun _ _ => by kernel_rfl, fun _ _ => by kernel_rfl, fun _ _ => by kernel_rfl, fun _ _ => by kernel_rfl, fun _ _ => by kernel_rfl, fun _ _ => by kernel_rfl⟩
/-- What the switch over a part's type says of TildePath. -/
theorem tas_TildePath : (∀ (v : Value) (w : World), (Instr.typeAssert (.iface 61 v) 47 59 true).run Tryd.prog w = .ok (.tuple #[.string ⟨#[]⟩, .bool false]) w) ∧ (∀ (v : Value) (w : World), (Instr.typeAssert (.iface 61 v) 47 75 true).run Tryd.prog w = .ok (.tuple #[.agg #[.int .i64 0, .int .i64 0, .int .i64 0], .bool false]) w) ∧ (∀ (v : Value) (w : World), (Instr.typeAssert (.iface 61 v) 47 67 true).run Tryd.prog w = .ok (.tuple #[.agg #[.int .i64 0], .bool false]) w) ∧ (∀ (v : Value) (w : World), (Instr.typeAssert (.iface 61 v) 47 68 true).run Tryd.prog w = .ok (.tuple #[.agg #[.int .i64 0], .bool false]) w) ∧ (∀ (v : Value) (w : World), (Instr.typeAssert (.iface 61 v) 47 70 true).run Tryd.prog w = .ok (.tuple #[.agg #[.string ⟨#[]⟩], .bool false]) w) ∧ (∀ (v : Value) (w : World), (Instr.typeAssert (.iface 61 v) 47 71 true).run Tryd.prog w = .ok (.tuple #[.agg #[.string ⟨#[]⟩], .bool false]) w) ∧ (∀ (v : Value) (w : World), (Instr.typeAssert (.iface 61 v) 47 61 true).run Tryd.prog w = .ok (.tuple #[v, .bool true]) w) ∧ (∀ (v : Value) (w : World), (Instr.typeAssert (.iface 61 v) 47 62 true).run Tryd.prog w = .ok (.tuple #[.agg #[.int .i64 0], .bool false]) w) ∧ (∀ (v : Value) (w : World), (Instr.typeAssert (.iface 61 v) 47 64 true).run Tryd.prog w = .ok (.tuple #[.agg #[.string ⟨#[]⟩, .bool false], .bool false]) w) ∧ (∀ (v : Value) (w : World), (Instr.typeAssert (.iface 61 v) 47 66 true).run Tryd.prog w = .ok (.tuple #[.agg #[.string ⟨#[]⟩], .bool false]) w) ∧ (∀ (v : Value) (w : World), (Instr.typeAssert (.iface 61 v) 47 78 true).run Tryd.prog w = .ok (.tuple #[.agg #[.string ⟨#[]⟩, .bool false], .bool false]) w) ∧ (∀ (v : Value) (w : World), (Instr.typeAssert (.iface 61 v) 47 80 true).run Tryd.prog w = .ok (.tuple #[.agg #[.string ⟨#[]⟩], .bool false]) w) ∧ (∀ (v : Value) (w : World), (Instr.typeAssert (.iface 61 v) 47 82 true).run Tryd.prog w = .ok (.tuple #[.agg #[.string ⟨#[]⟩, .int .i64 0], .bool false]) w) :=
  ⟨fun _ _ => by kernel_rfl, fun _ _ => by kernel_rfl, fun _ _ => by kernel_rfl, fun _ _ => by kernel_rfl, fun _ _ => by kernel_rfl, fun _ _ => by kernel_rfl, fun _ _ => by kernel_rfl, fun _ _ => by kernel_rfl, fun _ _ => by kernel_rfl, fun _ _ => by kernel_rfl, fun _ _ => by kernel_rfl, fun _ _ => by kernel_rfl, fun _ _ => by kernel_rfl⟩
/-- What the switch over a part's type says of CaretPath. -/
theorem tas_CaretPath : (∀ (v : Value) (w : World), (Instr.typeAssert (.iface 62 v) 47 59 true).run Tryd.prog w = .ok (.tuple #[.string ⟨#[]⟩, .bool false]) w) ∧ (∀ (v : Value) (w : World), (Instr.typeAssert (.iface 62 v) 47 75 true).run Tryd.prog w = .ok (.tuple #[.agg #[.int .i64 0, .int .i64 0, .int .i64 0], .bool false]) w) ∧ (∀ (v : Value) (w : World), (Instr.typeAssert (.iface 62 v) 47 67 true).run Tryd.prog w = .ok (.tuple #[.agg #[.int .i64 0], .bool false]) w) ∧ (∀ (v : Value) (w : World), (Instr.typeAssert (.iface 62 v) 47 68 true).run Tryd.prog w = .ok (.tuple #[.agg #[.int .i64 0], .bool false]) w) ∧ (∀ (v : Value) (w : World), (Instr.typeAssert (.iface 62 v) 47 70 true).run Tryd.prog w = .ok (.tuple #[.agg #[.string ⟨#[]⟩], .bool false]) w) ∧ (∀ (v : Value) (w : World), (Instr.typeAssert (.iface 62 v) 47 71 true).run Tryd.prog w = .ok (.tuple #[.agg #[.string ⟨#[]⟩], .bool false]) w) ∧ (∀ (v : Value) (w : World), (Instr.typeAssert (.iface 62 v) 47 61 true).run Tryd.prog w = .ok (.tuple #[.agg #[.int .i64 0], .bool false]) w) ∧ (∀ (v : Value) (w : World), (Instr.typeAssert (.iface 62 v) 47 62 true).run Tryd.prog w = .ok (.tuple #[v, .bool true]) w) ∧ (∀ (v : Value) (w : World), (Instr.typeAssert (.iface 62 v) 47 64 true).run Tryd.prog w = .ok (.tuple #[.agg #[.string ⟨#[]⟩, .bool false], .bool false]) w) ∧ (∀ (v : Value) (w : World), (Instr.typeAssert (.iface 62 v) 47 66 true).run Tryd.prog w = .ok (.tuple #[.agg #[.string ⟨#[]⟩], .bool false]) w) ∧ (∀ (v : Value) (w : World), (Instr.typeAssert (.iface 62 v) 47 78 true).run Tryd.prog w = .ok (.tuple #[.agg #[.string ⟨#[]⟩, .bool false], .bool false]) w) ∧ (∀ (v : Value) (w : World), (Instr.typeAssert (.iface 62 v) 47 80 true).run Tryd.prog w = .ok (.tuple #[.agg #[.string ⟨#[]⟩], .bool false]) w) ∧ (∀ (v : Value) (w : World), (Instr.typeAssert (.iface 62 v) 47 82 true).run Tryd.prog w = .ok (.tuple #[.agg #[.string ⟨#[]⟩, .int .i64 0], .bool false]) w) :=
  ⟨fun _ _ => by kernel_rfl, fun _ _ => by kernel_rfl, fun _ _ => by kernel_rfl, fun _ _ => by kernel_rfl, fun _ _ => by kernel_rfl, fun _ _ => by kernel_rfl, fun _ _ => by kernel_rfl, fun _ _ => by kernel_rfl, fun _ _ => by kernel_rfl, fun _ _ => by kernel_rfl, fun _ _ => by kernel_rfl, fun _ _ => by kernel_rfl, fun _ _ => by kernel_rfl⟩
/-- What the switch over a part's type says of CaretType. -/
theorem tas_CaretType : (∀ (v : Value) (w : World), (Instr.typeAssert (.iface 66 v) 47 59 true).run Tryd.prog w = .ok (.tuple #[.string ⟨#[]⟩, .bool false]) w) ∧ (∀ (v : Value) (w : World), (Instr.typeAssert (.iface 66 v) 47 75 true).run Tryd.prog w = .ok (.tuple #[.agg #[.int .i64 0, .int .i64 0, .int .i64 0], .bool false]) w) ∧ (∀ (v : Value) (w : World), (Instr.typeAssert (.iface 66 v) 47 67 true).run Tryd.prog w = .ok (.tuple #[.agg #[.int .i64 0], .bool false]) w) ∧ (∀ (v : Value) (w : World), (Instr.typeAssert (.iface 66 v) 47 68 true).run Tryd.prog w = .ok (.tuple #[.agg #[.int .i64 0], .bool false]) w) ∧ (∀ (v : Value) (w : World), (Instr.typeAssert (.iface 66 v) 47 70 true).run Tryd.prog w = .ok (.tuple #[.agg #[.string ⟨#[]⟩], .bool false]) w) ∧ (∀ (v : Value) (w : World), (Instr.typeAssert (.iface 66 v) 47 71 true).run Tryd.prog w = .ok (.tuple #[.agg #[.string ⟨#[]⟩], .bool false]) w) ∧ (∀ (v : Value) (w : World), (Instr.typeAssert (.iface 66 v) 47 61 true).run Tryd.prog w = .ok (.tuple #[.agg #[.int .i64 0], .bool false]) w) ∧ (∀ (v : Value) (w : World), (Instr.typeAssert (.iface 66 v) 47 62 true).run Tryd.prog w = .ok (.tuple #[.agg #[.int .i64 0], .bool false]) w) ∧ (∀ (v : Value) (w : World), (Instr.typeAssert (.iface 66 v) 47 64 true).run Tryd.prog w = .ok (.tuple #[.agg #[.string ⟨#[]⟩, .bool false], .bool false]) w) ∧ (∀ (v : Value) (w : World), (Instr.typeAssert (.iface 66 v) 47 66 true).run Tryd.prog w = .ok (.tuple #[v, .bool true]) w) ∧ (∀ (v : Value) (w : World), (Instr.typeAssert (.iface 66 v) 47 78 true).run Tryd.prog w = .ok (.tuple #[.agg #[.string ⟨#[]⟩, .bool false], .bool false]) w) ∧ (∀ (v : Value) (w : World), (Instr.typeAssert (.iface 66 v) 47 80 true).run Tryd.prog w = .ok (.tuple #[.agg #[.string ⟨#[]⟩], .bool false]) w) ∧ (∀ (v : Value) (w : World), (Instr.typeAssert (.iface 66 v) 47 82 true).run Tryd.prog w = .ok (.tuple #[.agg #[.string ⟨#[]⟩, .int .i64 0], .bool false]) w) :=
  ⟨fun _ _ => by kernel_rfl, fun _ _ => by kernel_rfl, fun _ _ => by kernel_rfl, fun _ _ => by kernel_rfl, fun _ _ => by kernel_rfl, fun _ _ => by kernel_rfl, fun _ _ => by kernel_rfl, fun _ _ => by kernel_rfl, fun _ _ => by kernel_rfl, fun _ _ => by kernel_rfl, fun _ _ => by kernel_rfl, fun _ _ => by kernel_rfl, fun _ _ => by kernel_rfl⟩
/-- What the switch over a part's type says of AtUpstream. -/
theorem tas_AtUpstream : (∀ (v : Value) (w : World), (Instr.typeAssert (.iface 70 v) 47 59 true).run Tryd.prog w = .ok (.tuple #[.string ⟨#[]⟩, .bool false]) w) ∧ (∀ (v : Value) (w : World), (Instr.typeAssert (.iface 70 v) 47 75 true).run Tryd.prog w = .ok (.tuple #[.agg #[.int .i64 0, .int .i64 0, .int .i64 0], .bool false]) w) ∧ (∀ (v : Value) (w : World), (Instr.typeAssert (.iface 70 v) 47 67 true).run Tryd.prog w = .ok (.tuple #[.agg #[.int .i64 0], .bool false]) w) ∧ (∀ (v : Value) (w : World), (Instr.typeAssert (.iface 70 v) 47 68 true).run Tryd.prog w = .ok (.tuple #[.agg #[.int .i64 0], .bool false]) w) ∧ (∀ (v : Value) (w : World), (Instr.typeAssert (.iface 70 v) 47 70 true).run Tryd.prog w = .ok (.tuple #[v, .bool true]) w) ∧ (∀ (v : Value) (w : World), (Instr.typeAssert (.iface 70 v) 47 71 true).run Tryd.prog w = .ok (.tuple #[.agg #[.string ⟨#[]⟩], .bool false]) w) ∧ (∀ (v : Value) (w : World), (Instr.typeAssert (.iface 70 v) 47 61 true).run Tryd.prog w = .ok (.tuple #[.agg #[.int .i64 0], .bool false]) w) ∧ (∀ (v : Value) (w : World), (Instr.typeAssert (.iface 70 v) 47 62 true).run Tryd.prog w = .ok (.tuple #[.agg #[.int .i64 0], .bool false]) w) ∧ (∀ (v : Value) (w : World), (Instr.typeAssert (.iface 70 v) 47 64 true).run Tryd.prog w = .ok (.tuple #[.agg #[.string ⟨#[]⟩, .bool false], .bool false]) w) ∧ (∀ (v : Value) (w : World), (Instr.typeAssert (.iface 70 v) 47 66 true).run Tryd.prog w = .ok (.tuple #[.agg #[.string ⟨#[]⟩], .bool false]) w) ∧ (∀ (v : Value) (w : World), (Instr.typeAssert (.iface 70 v) 47 78 true).run Tryd.prog w = .ok (.tuple #[.agg #[.string ⟨#[]⟩, .bool false], .bool false]) w) ∧ (∀ (v : Value) (w : World), (Instr.typeAssert (.iface 70 v) 47 80 true).run Tryd.prog w = .ok (.tuple #[.agg #[.string ⟨#[]⟩], .bool false]) w) ∧ (∀ (v : Value) (w : World), (Instr.typeAssert (.iface 70 v) 47 82 true).run Tryd.prog w = .ok (.tuple #[.agg #[.string ⟨#[]⟩, .int .i64 0], .bool false]) w) :=
  ⟨fun _ _ => by kernel_rfl, fun _ _ => by kernel_rfl, fun _ _ => by kernel_rfl, fun _ _ => by kernel_rfl, fun _ _ => by kernel_rfl, fun _ _ => by kernel_rfl, fun _ _ => by kernel_rfl, fun _ _ => by kernel_rfl, fun _ _ => by kernel_rfl, fun _ _ => by kernel_rfl, fun _ _ => by kernel_rfl, fun _ _ => by kernel_rfl, fun _ _ => by kernel_rfl⟩
/-- What the switch over a part's type says of AtPush. -/
theorem tas_AtPush : (∀ (v : Value) (w : World), (Instr.typeAssert (.iface 71 v) 47 59 true).run Tryd.prog w = .ok (.tuple #[.string ⟨#[]⟩, .bool false]) w) ∧ (∀ (v : Value) (w : World), (Instr.typeAssert (.iface 71 v) 47 75 true).run Tryd.prog w = .ok (.tuple #[.agg #[.int .i64 0, .int .i64 0, .int .i64 0], .bool false]) w) ∧ (∀ (v : Value) (w : World), (Instr.typeAssert (.iface 71 v) 47 67 true).run Tryd.prog w = .ok (.tuple #[.agg #[.int .i64 0], .bool false]) w) ∧ (∀ (v : Value) (w : World), (Instr.typeAssert (.iface 71 v) 47 68 true).run Tryd.prog w = .ok (.tuple #[.agg #[.int .i64 0], .bool false]) w) ∧ (∀ (v : Value) (w : World), (Instr.typeAssert (.iface 71 v) 47 70 true).run Tryd.prog w = .ok (.tuple #[.agg #[.string ⟨#[]⟩], .bool false]) w) ∧ (∀ (v : Value) (w : World), (Instr.typeAssert (.iface 71 v) 47 71 true).run Tryd.prog w = .ok (.tuple #[v, .bool true]) w) ∧ (∀ (v : Value) (w : World), (Instr.typeAssert (.iface 71 v) 47 61 true).run Tryd.prog w = .ok (.tuple #[.agg #[.int .i64 0], .bool false]) w) ∧ (∀ (v : Value) (w : World), (Instr.typeAssert (.iface 71 v) 47 62 true).run Tryd.prog w = .ok (.tuple #[.agg #[.int .i64 0], .bool false]) w) ∧ (∀ (v : Value) (w : World), (Instr.typeAssert (.iface 71 v) 47 64 true).run Tryd.prog w = .ok (.tuple #[.agg #[.string ⟨#[]⟩, .bool false], .bool false]) w) ∧ (∀ (v : Value) (w : World), (Instr.typeAssert (.iface 71 v) 47 66 true).run Tryd.prog w = .ok (.tuple #[.agg #[.string ⟨#[]⟩], .bool false]) w) ∧ (∀ (v : Value) (w : World), (Instr.typeAssert (.iface 71 v) 47 78 true).run Tryd.prog w = .ok (.tuple #[.agg #[.string ⟨#[]⟩, .bool false], .bool false]) w) ∧ (∀ (v : Value) (w : World), (Instr.typeAssert (.iface 71 v) 47 80 true).run Tryd.prog w = .ok (.tuple #[.agg #[.string ⟨#[]⟩], .bool false]) w) ∧ (∀ (v : Value) (w : World), (Instr.typeAssert (.iface 71 v) 47 82 true).run Tryd.prog w = .ok (.tuple #[.agg #[.string ⟨#[]⟩, .int .i64 0], .bool false]) w) :=
  ⟨fun _ _ => by kernel_rfl, fun _ _ => by kernel_rfl, fun _ _ => by kernel_rfl, fun _ _ => by kernel_rfl, fun _ _ => by kernel_rfl, fun _ _ => by kernel_rfl, fun _ _ => by kernel_rfl, fun _ _ => by kernel_rfl, fun _ _ => by kernel_rfl, fun _ _ => by kernel_rfl, fun _ _ => by kernel_rfl, fun _ _ => by kernel_rfl, fun _ _ => by kernel_rfl⟩
theorem validate_any (w : World) (A0 : Value) (gv c : Nat) (A : Option Addr) (l : List Rev) (hF : Fine l) (hl : l.length ≤ 100000) (hc : l.length ≤ c) (hC : kV.C w A l.length l) (hV : w.cell? ⟨gv, 0, none⟩ = some (.slice A l.length c)) :
    Calls Tryd.prog 29 #[A0, .pointer (some ⟨gv, 0, none⟩)] w fun e w' => e = .returned .nilIface ∧ w = w' := by
  obtain ⟨s, r, hlr, hr⟩ := hF
  have HLR := Aside0.mk hlr
  have HR := Aside0.mk hr
  have HC := Aside0.mk hC
  have HLEN : Aside0 (l.length = r.length + 1) := ⟨by rw [hlr]; rfl⟩
  obtain ⟨n, hn⟩ : ∃ n, l.length = n := ⟨_, rfl⟩
  have HN := Aside0.mk hn
  rw [hn] at hV hl hc
  have b0 : (0 : Int) ≤ (n : Int) := by omega
  clear hlr hr hC hn
  go_enter Tryd.func29, Tryd.ntmps29
  go_wp2_with fail
  go_loopg [4, 5, 6, 7, 12] (n + 1) (fun kq v4 v5 v6 v7 v12 w' => ∃ i : Nat, v12 = .int .i64 (i : Int) ∧ v5 = .bool (decide (0 < i)) ∧ i ≤ n ∧ Aside0 (kq + i = n + 1) ∧ w = w')
  case atStart => exact ⟨0, rfl, rfl, Nat.zero_le _, ⟨rfl⟩, rfl⟩
  case round =>
    obtain ⟨i, rfl, rfl, hin, HK, rfl⟩ := hrel
    by_cases hlt : i < n
    · obtain ⟨ad, hA, hcell⟩ := at_V HC.out i (by rw [HN.out]; exact hlt)
      subst hA
      have c1 : decide ((i : Int) < (n : Int)) = true := decide_eq_true (by omega)
      have c2 : decide (i < n) = true := decide_eq_true hlt
      have v1 : (0 : Int) ≤ (i : Int) := by omega
      have v2 : (i : Int) < (n : Int) := by omega
      have w1 : wrap64 ((i : Int) + 1) = (i : Int) + 1 := w64 (by omega) (by omega)
      have HI := Aside0.mk hin
      by_cases hi0 : i = 0
      · have hx : l[i]'(by rw [HN.out]; exact hlt) = .ref s := by
          have := HLR.out
          subst this
          subst hi0
          rfl
        rw [hx] at hcell
        simp only [rv] at hcell
        obtain ⟨ta0, ta1, ta2, ta3, ta4, ta5, ta6, ta7, ta8, ta9, ta10, ta11, ta12⟩ := tas_Ref
        have HI0 := Aside0.mk hi0
        have d0 : decide (0 < i) = false := decide_eq_false (by omega)
        have z0 : ((i : Int) == 0) = true := beq_iff_eq.2 (by omega)
        have z1 : (i == 0) = true := beq_iff_eq.2 hi0
        clear hx hin hi0
        cases gk with
        | zero => exact absurd HK.out (by omega)
        | succ k1 =>
          go_wp2_with fail
          go_roundg k1
          case measure => omega
          case rel => exact ⟨i + 1, by first | rfl | (go_num), by first | (rw [decide_eq_true (show 0 < i + 1 by omega)]; done) | (rw [decide_eq_true (show 0 < i + 1 by omega), d0]), by have := HLEN.out; have := HN.out; have := HI0.out; omega, ⟨by have := HK.out; omega⟩, rfl⟩
      · obtain ⟨j, hj⟩ : ∃ j, i = j + 1 := ⟨i - 1, by omega⟩
        have hjr : j < r.length := by have := HLEN.out; have := HN.out; omega
        have hx : l[i]'(by rw [HN.out]; exact hlt) = r[j] := by
          have := HLR.out
          subst this
          subst hj
          rfl
        rw [hx] at hcell
        have d0 : decide (0 < i) = true := decide_eq_true (by omega)
        have z0 : ((i : Int) == 0) = false := beq_eq_false_iff_ne.2 (by omega)
        have z1 : (i == 0) = false := beq_eq_false_iff_ne.2 hi0
        have HJ := Aside0.mk hj
        clear hx hin hi0 hj
        cases gk with
        | zero => exact absurd HK.out (by omega)
        | succ k1 =>
          rcases HR.out with hall | hup | hpu
          · rcases hall _ (List.getElem_mem hjr) with ⟨m, hm⟩ | ⟨m, hm⟩ | ⟨m, hm⟩
            all_goals rw [hm] at hcell
            all_goals simp only [rv] at hcell
            rotate_left
            obtain ⟨ta0, ta1, ta2, ta3, ta4, ta5, ta6, ta7, ta8, ta9, ta10, ta11, ta12⟩ := tas_CaretPath
            rotate_left
            obtain ⟨ta0, ta1, ta2, ta3, ta4, ta5, ta6, ta7, ta8, ta9, ta10, ta11, ta12⟩ := tas_CaretType
            rotate_left
            obtain ⟨ta0, ta1, ta2, ta3, ta4, ta5, ta6, ta7, ta8, ta9, ta10, ta11, ta12⟩ := tas_TildePath
            all_goals clear hm hall
            all_goals go_wp2_with fail
            all_goals go_roundg k1
            all_goals first | (case measure => omega) | skip
            all_goals exact ⟨i + 1, by first | rfl | (go_num), by first | (rw [decide_eq_true (show 0 < i + 1 by omega)]; done) | (rw [decide_eq_true (show 0 < i + 1 by omega), d0]), by omega, ⟨by have := HK.out; omega⟩, rfl⟩
          · have hj0 : r[j] = .up := by
              subst hup
              have : j = 0 := by rw [List.length_singleton] at hjr; omega
              subst this
              rfl
            have hn2 : n = 2 := by have h1 := HLEN.out; have := HN.out; rw [hup, List.length_singleton] at h1; omega
            rw [hj0] at hcell
            simp only [rv] at hcell
            obtain ⟨ta0, ta1, ta2, ta3, ta4, ta5, ta6, ta7, ta8, ta9, ta10, ta11, ta12⟩ := tas_AtUpstream
            clear hj0 hup hjr
            subst hn2
            go_wp2_with fail
            go_ret
            exact ⟨rfl, rfl⟩
          · have hj0 : r[j] = .push := by
              subst hpu
              have : j = 0 := by rw [List.length_singleton] at hjr; omega
              subst this
              rfl
            have hn2 : n = 2 := by have h1 := HLEN.out; have := HN.out; rw [hpu, List.length_singleton] at h1; omega
            rw [hj0] at hcell
            simp only [rv] at hcell
            obtain ⟨ta0, ta1, ta2, ta3, ta4, ta5, ta6, ta7, ta8, ta9, ta10, ta11, ta12⟩ := tas_AtPush
            clear hj0 hpu hjr
            subst hn2
            go_wp2_with fail
            go_ret
            exact ⟨rfl, rfl⟩
    · have hieq : i = n := by omega
      subst hieq
      have c1 : decide ((i : Int) < (i : Int)) = false := decide_eq_false (by omega)
      have c2 : decide (i < i) = false := decide_eq_false (by omega)
      go_wp2_with fail
      go_ret
      exact ⟨rfl, rfl⟩
end Go.Proofs.YtiibeefadgmicaaDoor.rev
