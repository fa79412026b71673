/- Capabilities: texts with blanks between them, plain. -/
import Derived.Test.YtdobblddnfalcaaDoorMapq
import Derived.Lib.Join
namespace Go.Proofs.YtdobblddnfalcaaDoor.cap
open Go.RowKit
set_option linter.unusedVariables false
set_option linter.unusedSimpArgs false
set_option maxHeartbeats 1000000
/-- What stands for one capability: its name, or its name, an equals sign and a value, for each of its values. -/
def items (c : ByteArray) (vs : List ByteArray) : List ByteArray := if vs = [] then [c] else vs.map fun v => (c ++ (⟨#[61]⟩ : ByteArray)) ++ v
/-- One text more behind a text, with a blank between them if there is one. -/
def addT (t s : ByteArray) : ByteArray := if t.size = 0 then s else (t ++ (⟨#[32]⟩ : ByteArray)) ++ s
def joinB (l : List ByteArray) : ByteArray := ⟨(Lib.join (l.map (·.data.toList)) [32]).toArray⟩
theorem data_append (a b : ByteArray) : (a ++ b).data.toList = a.data.toList ++ b.data.toList := by
  rw [ByteArray.data_append, Array.toList_append]
theorem size_data (a : ByteArray) : a.size = a.data.toList.length := rfl
theorem ba_ext {a b : ByteArray} (h : a.data.toList = b.data.toList) : a = b := ByteArray.ext (Array.toList_inj.1 h)
theorem fold_tail : ∀ (l : List ByteArray) (t : ByteArray), 0 < t.size → (l.foldl addT t).data.toList = t.data.toList ++ Lib.joinTail [32] (l.map (·.data.toList))
  | [], t, _ => by simp [Lib.joinTail]
  | s :: r, t, ht => by
    have h0 : ¬ t.size = 0 := by omega
    have e : (addT t s).data.toList = t.data.toList ++ ([32] ++ s.data.toList) := by
      unfold addT
      rw [if_neg h0, data_append, data_append, List.append_assoc]
    have h1 : 0 < (addT t s).size := by
      rw [size_data, e, List.length_append, List.length_append]
      have : t.data.toList.length = t.size := rfl
      omega
    rw [List.foldl_cons, fold_tail r _ h1, e, List.map_cons]
    unfold Lib.joinTail
    rw [List.map_cons, List.flatten_cons, List.append_assoc]
theorem fold_join (l : List ByteArray) (h : ∀ s ∈ l, 0 < s.size) : l.foldl addT ⟨#[]⟩ = joinB l := by
  cases l with
  | nil => rfl
  | cons s r =>
    have hs := h s List.mem_cons_self
    apply ba_ext
    rw [List.foldl_cons, show addT ⟨#[]⟩ s = s from rfl, fold_tail r s hs]
    unfold joinB
    rw [List.map_cons, Lib.join_cons]
theorem fold_append (l m : List ByteArray) (t : ByteArray) : (l ++ m).foldl addT t = m.foldl addT (l.foldl addT t) := List.foldl_append
theorem addT_size (t s : ByteArray) : (addT t s).size ≤ t.size + 1 + s.size := by
  unfold addT
  by_cases h : t.size = 0
  · rw [if_pos h]; omega
  · rw [if_neg h, ByteArray.size_append, ByteArray.size_append]
    exact Nat.le_refl _
theorem fold_size (B : Nat) : ∀ (l : List ByteArray) (t : ByteArray), (∀ s ∈ l, s.size ≤ B) → (l.foldl addT t).size ≤ t.size + l.length * (B + 1)
  | [], t, _ => by simp
  | s :: r, t, h => by
    have h1 := fold_size B r (addT t s) (fun x hx => h x (List.mem_cons_of_mem _ hx))
    have h2 := addT_size t s
    have h3 := h s List.mem_cons_self
    rw [List.foldl_cons, List.length_cons, Nat.succ_mul]
    omega
end Go.Proofs.YtdobblddnfalcaaDoor.cap
