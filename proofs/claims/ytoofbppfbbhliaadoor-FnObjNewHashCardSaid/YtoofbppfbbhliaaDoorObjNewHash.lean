/- A name that is read says itself: FnObjNewHash answers true for every text. Conditions: the text is no longer than the row lets it be; the variable encoding/hex.ErrLength holds what the program's text lays in it (the card ties it). -/
import Derived.Test.YtoofbppfbbhliaaDoorHash
import Derived.ProofKit
namespace Go.Proofs.YtoofbppfbbhliaaDoor.fnObjNewHash
open Go.RowKit
set_option linter.unusedVariables false
set_option maxHeartbeats 400000
set_option maxRecDepth 100000
/-- impl.NewHash of a name says the name. -/
theorem impl_any (s : ByteArray) (w : World) (ev : Value) (hE : w.cell? ⟨4, 0, none⟩ = some ev) (h : hash.name40 s = true) :
    Calls Tryd.prog 18 #[.string s] w fun e w' => e = .returned (.string s) ∧ Below w.heap.size w w' := by
  obtain ⟨D, h1, h2, h3⟩ := hash.name40_decode h
  have hsz : s.size ≤ 100 := by rw [(hash.name40_bytes h).1]; omega
  have hs : (⟨(Lib.Hx.encode D).toArray⟩ : ByteArray) = s := Go.WideShapes.bytes_inj (by rw [h3])
  have HH := Lib.hid (hash.newHash s D .ok w ev hE hsz h1 h2)
  have HS : ∀ w, Calls Tryd.prog 48 #[.agg (hash.cells D).toArray] w fun e w' => e = .returned (.string s) ∧ Below w.heap.size w w' := fun w => by rw [← hs]; exact hash.hashString D w h2
  have HS' := Lib.hid HS
  clear HS h1 h3 hs
  go_enter Tryd.func18, Tryd.ntmps18
  go_wp2_with fail
  refine HH.out.mono ?_
  rintro e w1 ⟨rfl, b1⟩
  go_wp2_with fail
  refine (HS'.out _).mono ?_
  rintro e w2 ⟨rfl, b2⟩
  go_wp2_with fail
  go_ret
  exact ⟨rfl, b1.trans (b2.mono b1.size)⟩
theorem law_yes (s : ByteArray) (w : World) (ev : Value) (hE : w.cell? ⟨4, 0, none⟩ = some ev) (h : hash.name40 s = true) :
    Calls Tryd.prog 4 #[.string s] w fun e w' => e = .returned (.bool true) ∧ Below w.heap.size w w' := by
  have hsz : s.size = 40 := (hash.name40_bytes h).1
  have h4 : decide (2147483647 < (s.size : Int)) = false := by simp; omega
  have h5 : s.size ≤ 100 := by omega
  have HI := Lib.hid (impl_any s w ev hE h)
  clear hsz
  go_enter Tryd.func4, Tryd.ntmps4
  go_wp2_with fail
  refine (hash.name40_any s _ (by omega)).mono ?_
  rintro e w1 ⟨rfl, rfl⟩
  go_wp2_with fail
  refine HI.out.mono ?_
  rintro e w2 ⟨rfl, b2⟩
  go_wp2_with fail
  go_ret
  exact ⟨rfl, b2⟩
theorem law_no (s : ByteArray) (w : World) (hs : s.size ≤ 9223372036854775807) (h : hash.name40 s = false) :
    Calls Tryd.prog 4 #[.string s] w fun e w' => e = .returned (.bool true) ∧ Below w.heap.size w w' := by
  by_cases hl : s.size ≤ 2147483647
  · have h4 : (s.size : Int) ≤ 2147483647 := by omega
    go_enter Tryd.func4, Tryd.ntmps4
    go_wp2_with fail
    refine (hash.name40_any s _ (by omega)).mono ?_
    rintro e w1 ⟨rfl, rfl⟩
    go_wp2_with fail
    go_ret
    exact ⟨rfl, Below.refl _ _⟩
  · have h4 : (2147483647 : Int) < s.size := by omega
    go_enter Tryd.func4, Tryd.ntmps4
    go_wp2_with fail
    go_ret
    exact ⟨rfl, Below.refl _ _⟩
theorem law (s : ByteArray) (w : World) (hs : s.size ≤ 9223372036854775807) (hE : ∃ ev, w.cell? ⟨4, 0, none⟩ = some ev) :
    Calls Tryd.prog 4 #[.string s] w fun e w' => e = .returned (.bool true) ∧ Below w.heap.size w w' := by
  obtain ⟨ev, hE⟩ := hE
  cases h : hash.name40 s with
  | true => exact law_yes s w ev hE h
  | false => exact law_no s w hs h
end Go.Proofs.YtoofbppfbbhliaaDoor.fnObjNewHash
