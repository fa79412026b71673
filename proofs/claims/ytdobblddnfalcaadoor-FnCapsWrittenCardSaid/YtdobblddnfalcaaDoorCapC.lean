/- Capabilities: NewList, validate, Supports; Add of one that is new. -/
import Derived.Test.YtdobblddnfalcaaDoorCapB
namespace Go.Proofs.YtdobblddnfalcaaDoor.cap
open Go.RowKit Go.Proofs.YtdobblddnfalcaaDoorW.PrintWords Go.Proofs.YtdobblddnfalcaaDoorW.PrintLast Go.Proofs.YtdobblddnfalcaaDoorW.PrintMore Go.Proofs.YtdobblddnfalcaaDoor.off Go.Proofs.YtdobblddnfalcaaDoor.mapq Go.Proofs.YtdobblddnfalcaaDoor.PFnCapsWritten
set_option linter.unusedVariables false
set_option linter.unusedSimpArgs false
set_option maxHeartbeats 2000000
set_option maxRecDepth 100000
theorem zeroPtr (w : World) : (zeroValue 65).run Tryd.prog w = .ok (.pointer none) w := by kernel_rfl
theorem zeroStrs (w : World) : (zeroValue 28).run Tryd.prog w = .ok (.slice none 0 0) w := by kernel_rfl
theorem newList_any (w : World) : Calls Tryd.prog 21 #[] w fun e w' => ∃ gl gm, e = .returned (.pointer (some ⟨gl, 0, none⟩)) ∧ w.heap.size ≤ gl ∧ w.heap.size ≤ gm ∧ CapS w' gl gm (.slice none 0 0) [] [] ∧ Below w.heap.size w w' := by
  have hmm := @run_makeMap Tryd.prog
  have HM := Aside0.mk (MapP.new Tryd.prog 50 w)
  have HB := Aside0.mk (below_alloc (Below.refl w.heap.size w) (.map #[] 0))
  have HSZ := Aside0.mk (show (w.alloc (.map #[] 0)).heap.size = w.heap.size + 1 by simp)
  go_enter Tryd.func21, Tryd.ntmps21
  go_wp2_with fail
  go_ret
  refine ⟨w.heap.size + 1, w.heap.size, rfl, Nat.le_succ _, Nat.le_refl _, ⟨?_, ?_, .inl ⟨rfl, rfl⟩, (fun r hr => by cases hr), ?_⟩, below_alloc HB.out _⟩
  · have := blk_new (w.alloc (.map #[] 0)) (.cells #[.map (some w.heap.size), .slice none 0 0] 64 (0, 0))
    rw [HSZ.out] at this
    exact this
  · exact HM.out.keep ((below_alloc (Below.refl _ _) _).block _ (by rw [HSZ.out]; omega))
  · simp [bl, own, Value.ownBlock]
theorem Src.below {w w' : World} {A : Option Addr} {m : Nat} {news : List Value} (h : Src w A m news) (hb : Below w.heap.size w w') : Src w' A m news :=
  ⟨h.len, fun j u hj => by
    obtain ⟨ad, h1, h2⟩ := h.rd j u hj
    exact ⟨ad, h1, (hb.cell (World.block_lt_of_cell? w _ h2)).trans h2⟩, h.one⟩
theorem supports_any (w : World) (gl gm : Nat) (sv : Value) (names : List ByteArray) (rows : List Row) (h : CapS w gl gm sv names rows) (s : ByteArray) (hs : s.size ≤ maxLen) (b : Bool) (hb : (find rows s).isSome = b) :
    Calls Tryd.prog 43 #[.pointer (some ⟨gl, 0, none⟩), .string s] w fun e w' => e = .returned (.bool b) ∧ Below w.heap.size w w' := by
  have q0 := (blk_cell h.list 0).trans (show _ = some (Value.map (some gm)) from rfl)
  have hr := h.map.look Tryd.underlying50 Tryd.underlying62 (zeroPtr w) s hs
  rw [hb] at hr
  generalize ptrV (find rows s) = pv at hr
  clear h
  go_enter Tryd.func43, Tryd.ntmps43
  go_wp2_with fail
  go_ret
  exact ⟨rfl, by first | exact Below.refl _ _ | exact below_alloc (Below.refl _ _) _⟩
/-- What is asked of a capability's values. -/
structure ArgsOk (name : ByteArray) (vs : List ByteArray) : Prop where
  size : name.size ≤ 1000
  known : decide (name.data.toList ∈ knownL) = true
  some_ : decide (name.data.toList ∈ requiresL) = true → vs ≠ []
  none_ : decide (name.data.toList ∈ requiresL) = false → vs = []
  one : decide (name.data.toList ∈ multipleL) = false → vs.length ≤ 1
  full : ∀ s ∈ vs, s.size ≠ 0
  most : vs.length ≤ 1000
theorem validate_any (w : World) (p : Value) (name : ByteArray) (A : Option Addr) (c : Nat) (vs : List ByteArray) (ok : ArgsOk name vs) (hsrc : Src w A vs.length (strs vs)) :
    Calls Tryd.prog 42 #[p, .string name, .slice A vs.length c] w fun e w' => e = .returned .nilIface ∧ Below w.heap.size w w' := by
  have hsz : name.size ≤ maxLen := Nat.le_trans ok.size (by decide)
  have HK := Aside0.mk (fun W => known_any W name hsz true ok.known)
  obtain ⟨rq, hrq⟩ : ∃ b, decide (name.data.toList ∈ requiresL) = b := ⟨_, rfl⟩
  obtain ⟨mu, hmu⟩ : ∃ b, decide (name.data.toList ∈ multipleL) = b := ⟨_, rfl⟩
  have HR := Aside0.mk (fun W => requires_any W name hsz rq hrq)
  have HU := Aside0.mk (fun W => multiple_any W name hsz mu hmu)
  have h1 := ok.some_
  have h2 := ok.none_
  have h3 := ok.one
  have h4 := ok.most
  rw [hrq] at h1 h2
  rw [hmu] at h3
  have HNE := Aside0.mk (fun W (hb : Below w.heap.size w W) => noEmpty_any W p A c vs (Src.below hsrc hb) ok.full (by omega))
  have HB0 := Aside0.mk (Below.refl w.heap.size w)
  obtain ⟨n, hn⟩ : ∃ n, vs.length = n := ⟨_, rfl⟩
  rw [hn] at HNE h3 h4 ⊢
  have h1' : rq = true → n ≠ 0 := fun h e => h1 h (List.eq_nil_of_length_eq_zero (by omega))
  have h2' : rq = false → n = 0 := fun h => by rw [← hn, h2 h]; rfl
  clear hsrc ok hrq hmu h1 h2 hn
  cases rq with
  | true =>
    have hn0 := h1' rfl
    have d0 : ((n : Int) == 0) = false := beq_eq_false_iff_ne.2 (by omega)
    have d1 : (n == 0) = false := beq_eq_false_iff_ne.2 hn0
    clear h1' h2'
    cases mu with
    | true =>
      clear h3
      go_enter Tryd.func42, Tryd.ntmps42
      go_wp2_with fail
      refine (HK.out _).mono ?_
      rintro e w1 ⟨rfl, hb⟩
      have HB1 := Aside0.mk hb
      clear hb
      go_wp2_with fail
      refine (HR.out _).mono ?_
      rintro e w2 ⟨rfl, hb⟩
      have HB2 := Aside0.mk (below_step HB1.out hb)
      clear hb
      go_wp2_with fail
      refine (HR.out _).mono ?_
      rintro e w3 ⟨rfl, hb⟩
      have HB3 := Aside0.mk (below_step HB2.out hb)
      clear hb
      go_wp2_with fail
      refine (HU.out _).mono ?_
      rintro e w4 ⟨rfl, hb⟩
      have HB4 := Aside0.mk (below_step HB3.out hb)
      clear hb
      go_wp2_with fail
      refine (HNE.out _ HB4.out).mono ?_
      rintro e w5 ⟨rfl, q, rfl⟩
      go_wp2_with fail
      go_ret
      exact ⟨rfl, pw_below_drewN HB4.out _⟩
    | false =>
      have h3' := h3 rfl
      have d2 : decide ((1 : Int) < (n : Int)) = false := decide_eq_false (by omega)
      have d3 : decide (1 < n) = false := decide_eq_false (by omega)
      clear h3
      go_enter Tryd.func42, Tryd.ntmps42
      go_wp2_with fail
      refine (HK.out _).mono ?_
      rintro e w1 ⟨rfl, hb⟩
      have HB1 := Aside0.mk hb
      clear hb
      go_wp2_with fail
      refine (HR.out _).mono ?_
      rintro e w2 ⟨rfl, hb⟩
      have HB2 := Aside0.mk (below_step HB1.out hb)
      clear hb
      go_wp2_with fail
      refine (HR.out _).mono ?_
      rintro e w3 ⟨rfl, hb⟩
      have HB3 := Aside0.mk (below_step HB2.out hb)
      clear hb
      go_wp2_with fail
      refine (HU.out _).mono ?_
      rintro e w4 ⟨rfl, hb⟩
      have HB4 := Aside0.mk (below_step HB3.out hb)
      clear hb
      go_wp2_with fail
      refine (HNE.out _ HB4.out).mono ?_
      rintro e w5 ⟨rfl, q, rfl⟩
      go_wp2_with fail
      go_ret
      exact ⟨rfl, pw_below_drewN HB4.out _⟩
  | false =>
    have hn0 := h2' rfl
    subst hn0
    clear h1' h2' h3 h4
    cases mu <;>
    · go_enter Tryd.func42, Tryd.ntmps42
      go_wp2_with fail
      refine (HK.out _).mono ?_
      rintro e w1 ⟨rfl, hb⟩
      have HB1 := Aside0.mk hb
      clear hb
      go_wp2_with fail
      refine (HR.out _).mono ?_
      rintro e w2 ⟨rfl, hb⟩
      have HB2 := Aside0.mk (below_step HB1.out hb)
      clear hb
      go_wp2_with fail
      refine (HR.out _).mono ?_
      rintro e w3 ⟨rfl, hb⟩
      have HB3 := Aside0.mk (below_step HB2.out hb)
      clear hb
      go_wp2_with fail
      refine (HU.out _).mono ?_
      rintro e w4 ⟨rfl, hb⟩
      have HB4 := Aside0.mk (below_step HB3.out hb)
      clear hb
      go_wp2_with fail
      refine (HNE.out _ HB4.out).mono ?_
      rintro e w5 ⟨rfl, q, rfl⟩
      go_wp2_with fail
      go_ret
      exact ⟨rfl, pw_below_drewN HB4.out _⟩
end Go.Proofs.YtdobblddnfalcaaDoor.cap
