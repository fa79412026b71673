-- PRINTED BY print.sh 35421559b90ae4d0a3588c463048766b98c2df88dd9212a6774a882060cdf62d: not written by this session
import Derived.Test.YtoofbppfbbhliaaDoorPFnDeltaInsertx0
namespace Go.Proofs.YtoofbppfbbhliaaDoor.PFnDeltaInsert
open Go.RowKit Go.Proofs.YtoofbppfbbhliaaDoorW.PrintWords Go.Proofs.YtoofbppfbbhliaaDoorW.PrintLast Go.Proofs.YtoofbppfbbhliaaDoorW.PrintMore
attribute [local go_sem] max2_int min2_int max_two min_two max_three min_three max_four min_four   -- for this text's walks alone
set_option linter.unusedVariables false
set_option linter.unusedSimpArgs false

-- NOT PRINTED: function 111 (packfile_decodeLEB128)

-- NOT PRINTED: function 131 (bytes_Buffer_tryGrowByReslice)

/-- A state of type 149 at block g of W; what its slices lead to came in by w0. -/
def IsS149 (w0 W : World) (g : Nat) (f0 : List Int) (f1 : Int) (f2 : Int) : Prop := ∃ A0 c0, W.heap[g]? = some (.cells #[.slice A0 f0.length c0, .int .i64 f1, .int .i8 f2] 149 (0, 0)) ∧ w0.heap.size ≤ g ∧ Kd.C (Kd.int .u8) w0 A0 f0.length f0
theorem IsS149.grown {w0 W : World} {g : Nat} {f0 : List Int} {f1 : Int} {f2 : Int} {W1 : World} {row : Option Nat} (h : IsS149 w0 W g f0 f1 f2) (hw : W.grownBy W1 row) (hne : some g ≠ row) : IsS149 w0 W1 g f0 f1 f2 := by
  obtain ⟨A0, c0, hb, hg, hr0⟩ := h
  exact ⟨A0, c0, blk_grown hb hw hne, hg, hr0⟩
theorem IsS149.own_neN {w0 W : World} {g : Nat} {f0 : List Int} {f1 : Int} {f2 : Int} {α : Type} {d : Kd α} {e : Nat} {base : Nat} {ok : Nat → Prop} {v : Value} {xs : List α} (h : IsS149 w0 W g f0 f1 f2) (ho : Kd.N d e W base ok v xs) (ht : e ≠ 149) : some g ≠ v.ownBlock := by
  obtain ⟨A0, c0, hb, hg, hr0⟩ := h
  exact Kd.N_ne ho hb ht
theorem IsS149.fresh {w0 W : World} {g : Nat} {f0 : List Int} {f1 : Int} {f2 : Int} (h : IsS149 w0 W g f0 f1 f2) : ∀ k, W.heap.size ≤ k → k ≠ g := by
  obtain ⟨A0, c0, hb, hg, hr0⟩ := h
  exact Kd.freshB hb
theorem IsS149.kept {w0 W : World} {g : Nat} {f0 : List Int} {f1 : Int} {f2 : Int} {W1 : World} {S : Nat → Prop} (h : IsS149 w0 W g f0 f1 f2) (hk : Kept W W1 S) (hne : ¬ S g) : IsS149 w0 W1 g f0 f1 f2 := by
  obtain ⟨A0, c0, hb, hg, hr0⟩ := h
  exact ⟨A0, c0, blk_kept hb hk hne, hg, hr0⟩
theorem IsS149.below {w0 W : World} {g : Nat} {f0 : List Int} {f1 : Int} {f2 : Int} {W1 : World} (h : IsS149 w0 W g f0 f1 f2) (hw : Below W.heap.size W W1) : IsS149 w0 W1 g f0 f1 f2 := h.grown (grown_of_below hw none) (by simp)
theorem IsS149.alloc {w0 W : World} {g : Nat} {f0 : List Int} {f1 : Int} {f2 : Int} (h : IsS149 w0 W g f0 f1 f2) (o : Obj) : IsS149 w0 (W.alloc o) g f0 f1 f2 := h.below (below_alloc (Below.refl _ _) o)
theorem IsS149.drewN {w0 W : World} {g : Nat} {f0 : List Int} {f1 : Int} {f2 : Int} (h : IsS149 w0 W g f0 f1 f2) (m : Nat) : IsS149 w0 (W.drewN m) g f0 f1 f2 := h
theorem IsS149.drew {w0 W : World} {g : Nat} {f0 : List Int} {f1 : Int} {f2 : Int} (h : IsS149 w0 W g f0 f1 f2) : IsS149 w0 W.drew g f0 f1 f2 := h
theorem IsS149.at_ {w0 W : World} {g : Nat} {f0 : List Int} {f1 : Int} {f2 : Int} {w' : World} {m : Nat} (hq : W.drewN m = w') (h : IsS149 w0 W g f0 f1 f2) : IsS149 w0 w' g f0 f1 f2 := by subst hq; exact IsS149.drewN h m
theorem IsS149.apart {w0 W : World} {g : Nat} {f0 : List Int} {f1 : Int} {f2 : Int} {α : Type} {d : Kd α} {e : Nat} {base : Nat} {ok : Nat → Prop} {v : Value} {xs : List α} (h : IsS149 w0 W g f0 f1 f2) (ho : d.R e W base ok v xs) (ht : ∀ q, q ∈ e :: d.E → q ≠ 149) : d.R e W base (fun k => ok k ∧ k ≠ g) v xs := by
  obtain ⟨A0, c0, hb, hg, hr0⟩ := h
  exact Kd.R_types ho hb ht
theorem IsS149.own_ne {w0 W : World} {g : Nat} {f0 : List Int} {f1 : Int} {f2 : Int} {α : Type} {d : Kd α} {e : Nat} {base : Nat} {ok : Nat → Prop} {v : Value} {xs : List α} (h : IsS149 w0 W g f0 f1 f2) (ho : d.R e W base ok v xs) (ht : e ≠ 149) : some g ≠ v.ownBlock := by
  obtain ⟨A0, c0, hb, hg, hr0⟩ := h
  exact Kd.R_ne ho hb ht
theorem IsS149.apartQ {w0 W : World} {g : Nat} {f0 : List Int} {f1 : Int} {f2 : Int} {α : Type} {d : Kd α} {e : Nat} {base : Nat} {ok : Nat → Prop} {v : Value} {xs : List α} (h : IsS149 w0 W g f0 f1 f2) (ho : d.Q e W base ok v xs) (ht : ∀ q, q ∈ e :: d.E → q ≠ 149) : d.Q e W base (fun k => ok k ∧ k ≠ g) v xs := by
  obtain ⟨A0, c0, hb, hg, hr0⟩ := h
  exact Kd.Q_types ho hb ht
theorem IsS149.own_neQ {w0 W : World} {g : Nat} {f0 : List Int} {f1 : Int} {f2 : Int} {α : Type} {d : Kd α} {e : Nat} {base : Nat} {ok : Nat → Prop} {v : Value} {xs : List α} (h : IsS149 w0 W g f0 f1 f2) (ho : d.Q e W base ok v xs) (ht : e ≠ 149) : some g ≠ v.ownBlock := by
  obtain ⟨A0, c0, hb, hg, hr0⟩ := h
  exact Kd.Q_ne ho hb ht
theorem IsS149.apartS {w0 W : World} {g : Nat} {f0 : List Int} {f1 : Int} {f2 : Int} {α : Type} {d : Kd α} {e : Nat} {base : Nat} {ok : Nat → Prop} {v : Value} {xs : List α} (h : IsS149 w0 W g f0 f1 f2) (ho : d.S e W base ok v xs) (ht : ∀ q, q ∈ e :: d.E → q ≠ 149) : d.S e W base (fun k => ok k ∧ k ≠ g) v xs := by
  obtain ⟨A0, c0, hb, hg, hr0⟩ := h
  exact Kd.S_types ho hb ht
theorem IsS149.own_neS {w0 W : World} {g : Nat} {f0 : List Int} {f1 : Int} {f2 : Int} {α : Type} {d : Kd α} {e : Nat} {base : Nat} {ok : Nat → Prop} {v : Value} {xs : List α} (h : IsS149 w0 W g f0 f1 f2) (ho : d.S e W base ok v xs) (ht : e ≠ 149) : some g ≠ v.ownBlock := by
  obtain ⟨A0, c0, hb, hg, hr0⟩ := h
  exact Kd.S_ne ho hb ht
theorem IsS149.lt {w0 W : World} {g : Nat} {f0 : List Int} {f1 : Int} {f2 : Int} (h : IsS149 w0 W g f0 f1 f2) : g < W.heap.size := by
  obtain ⟨A0, c0, hb, hg, hr0⟩ := h
  exact blk_lt hb
theorem IsS149.ge {w0 W : World} {g : Nat} {f0 : List Int} {f1 : Int} {f2 : Int} (h : IsS149 w0 W g f0 f1 f2) : w0.heap.size ≤ g := by
  obtain ⟨A0, c0, hb, hg, hr0⟩ := h
  exact hg
theorem IsS149.ne_blk {w0 W : World} {g : Nat} {f0 : List Int} {f1 : Int} {f2 : Int} {a : Nat} {cs : Array Value} {t : TypeId} {fr : Nat × Nat} (h : IsS149 w0 W g f0 f1 f2) (hb2 : W.heap[a]? = some (.cells cs t fr)) (ht : t ≠ 149) : g ≠ a := by
  obtain ⟨A0, c0, hb, hg, hr0⟩ := h
  rintro rfl
  rw [hb] at hb2
  injection hb2 with hb2
  injection hb2 with _ ht2
  exact ht ht2.symm
theorem IsS149.far {w0 W : World} {g : Nat} {f0 : List Int} {f1 : Int} {f2 : Int} {p : Addr} (h : IsS149 w0 W g f0 f1 f2) (hne : g ≠ p.block) (u : Value) : IsS149 w0 (W.setCell p u) g f0 f1 f2 := by
  obtain ⟨A0, c0, hb, hg, hr0⟩ := h
  exact ⟨A0, c0, blk_far hb hne u, hg, hr0⟩
theorem cellS149_0 {W : World} {g : Nat} {A0 : Option Addr} {c0 : Nat} {f0 : List Int} {f1 : Int} {f2 : Int} (h : W.heap[g]? = some (.cells #[.slice A0 f0.length c0, .int .i64 f1, .int .i8 f2] 149 (0, 0))) : W.cell? ⟨g, 0, none⟩ = some (.slice A0 f0.length c0) := (blk_cell h 0).trans rfl
theorem cellS149_1 {W : World} {g : Nat} {A0 : Option Addr} {c0 : Nat} {f0 : List Int} {f1 : Int} {f2 : Int} (h : W.heap[g]? = some (.cells #[.slice A0 f0.length c0, .int .i64 f1, .int .i8 f2] 149 (0, 0))) : W.cell? ⟨g, 1, none⟩ = some (.int .i64 f1) := (blk_cell h 1).trans rfl
theorem IsS149.set_1 {w0 W : World} {g : Nat} {f0 : List Int} {f1 : Int} {f2 : Int} (h : IsS149 w0 W g f0 f1 f2) (x : Int) : IsS149 w0 (W.setCell ⟨g, 1, none⟩ (.int .i64 x)) g f0 x f2 := by
  obtain ⟨A0, c0, hb, hg, hr0⟩ := h
  exact ⟨A0, c0, by simpa using blk_set hb 1 (.int .i64 x), hg, hr0⟩
theorem cellS149_2 {W : World} {g : Nat} {A0 : Option Addr} {c0 : Nat} {f0 : List Int} {f1 : Int} {f2 : Int} (h : W.heap[g]? = some (.cells #[.slice A0 f0.length c0, .int .i64 f1, .int .i8 f2] 149 (0, 0))) : W.cell? ⟨g, 2, none⟩ = some (.int .i8 f2) := (blk_cell h 2).trans rfl
theorem IsS149.set_2 {w0 W : World} {g : Nat} {f0 : List Int} {f1 : Int} {f2 : Int} (h : IsS149 w0 W g f0 f1 f2) (x : Int) : IsS149 w0 (W.setCell ⟨g, 2, none⟩ (.int .i8 x)) g f0 f1 x := by
  obtain ⟨A0, c0, hb, hg, hr0⟩ := h
  exact ⟨A0, c0, by simpa using blk_set hb 2 (.int .i8 x), hg, hr0⟩
theorem IsS149.new (w0 W : World) (A0 : Option Addr) (c0 : Nat) (f0 : List Int) (f1 : Int) (f2 : Int) (hB : Below w0.heap.size w0 W) (hr0 : Kd.C (Kd.int .u8) w0 A0 f0.length f0) : IsS149 w0 (W.alloc (.cells #[.slice A0 f0.length c0, .int .i64 f1, .int .i8 f2] 149)) W.heap.size f0 f1 f2 := ⟨A0, c0, by simpa using heap_alloc_new W _, hB.size, hr0⟩

/-! ### bytes_Buffer_Len: function 135 -/
def bytes_Buffer_Len.f (s0_0 : List Int) (s0_1 : Int) (s0_2 : Int) : Option (Int × Int × Int) := some (wrap64 ((s0_0.length : Int) - s0_1), s0_1, s0_2)
set_option maxHeartbeats 8000000 in
set_option maxRecDepth 100000 in
theorem bytes_Buffer_Len.calls (g : Nat) (s0_0 : List Int) (s0_1 : Int) (s0_2 : Int) (r1 : Int) (r2 : Int) (r3 : Int) (w0 w : World) (hI : IsS149 w0 w g s0_0 s0_1 s0_2) (hB : Below w0.heap.size w0 w) (h : bytes_Buffer_Len.f s0_0 s0_1 s0_2 = some (r1, r2, r3)) :
    Calls Tryd.prog 135 #[.pointer (some ⟨g, 0, none⟩)] w fun e w' => e = .returned (.int .i64 r1) ∧ IsS149 w0 w' g s0_0 r2 r3 ∧ Below w0.heap.size w0 w' ∧ KeepBut w w' g none := by
  have HI0 := Aside0.mk hI
  have HK := Aside0.mk (KeepBut.refl w g none)
  have HL := Aside0.mk hB.size
  clear hI
  have HW0 := Aside0.mk hB.size
  have HB := Aside0.mk hB
  clear hB
  have H : (some (wrap64 ((s0_0.length : Int) - s0_1), s0_1, s0_2)) = some (r1, r2, r3) := h
  clear h
  simp only [Option.some.injEq, Prod.mk.injEq] at H
  obtain ⟨rfl, rfl, rfl⟩ := H
  obtain ⟨ASz2_0, cSz2_0, HGz2, hgz2, HSz2_0⟩ := HI0.out
  have hcz2_0 := cellS149_0 HGz2
  have hcz2_1 := cellS149_1 HGz2
  have hcz2_2 := cellS149_2 HGz2
  have hfz2_1 := blk_frozen HGz2 1
  have hfz2_2 := blk_frozen HGz2 2
  clear HGz2 hgz2
  go_enter Tryd.func135, Tryd.ntmps135
  go_wp2
  repeat (go_quiet (fail); try go_wp2)
  go_ret
  exact ⟨by first | rfl | (simp [errW_none, errW_some] <;> rfl) | (simp [*, errW_none, errW_some] <;> rfl), by repeat (first | (with_reducible first | exact HI0.out | apply IsS149.alloc | apply IsS149.drewN | apply IsS149.drew | apply IsS149.set_1 | apply IsS149.set_2) | exact HI0.out), by repeat (first | (with_reducible first | exact HB.out | apply below_alloc | apply pw_below_drewN | apply below_drew1 | refine below_set ?_ (IsS149.ge HI0.out)) | exact HB.out), by repeat (first | (with_reducible first | exact HK.out | apply KeepBut.set_ | apply keep_drewN | apply keep_drew | apply keep_alloc) | exact HK.out)⟩

-- NOT PRINTED: function 136 (bytes_Buffer_Reset)

-- NOT PRINTED: function 137 (bytes_growSlice)

-- NOT PRINTED: function 129 (bytes_Buffer_grow)

-- NOT PRINTED: function 112 (bytes_Buffer_Grow)

/-! ### packfile_isCopyFromSrc: function 113 -/
def packfile_isCopyFromSrc.f (a0 : Int) : Option (Bool) := some ((Go.bits .and .u8 a0 128) != 0)
set_option maxHeartbeats 8000000 in
set_option maxRecDepth 100000 in
theorem packfile_isCopyFromSrc.calls (a0 : Int) (r : Bool) (w : World) (h : packfile_isCopyFromSrc.f a0 = some r) :
    Calls Tryd.prog 113 #[.int .u8 a0] w fun e w' => e = .returned (.bool r) ∧ Drawn0 w w' := by
  have H : (some ((Go.bits .and .u8 a0 128) != 0)) = some r := h
  clear h
  obtain rfl := Option.some.inj H
  go_enter Tryd.func113, Tryd.ntmps113
  go_wp2
  go_ret
  exact ⟨by first | rfl | (simp; done) | (simp [*]; done), by repeat (first | exact Drawn0.refl _ | apply Drawn0.step)⟩

-- NOT PRINTED: function 114 (packfile_decodeOffset)

-- NOT PRINTED: function 115 (packfile_decodeSize)

/-! ### packfile_invalidSize: function 116 -/
def packfile_invalidSize.f (a0 : Int) (a1 : Int) : Option (Bool) := some (decide (a0 > a1))
set_option maxHeartbeats 8000000 in
set_option maxRecDepth 100000 in
theorem packfile_invalidSize.calls (a0 : Int) (a1 : Int) (r : Bool) (w : World) (h : packfile_invalidSize.f a0 a1 = some r) :
    Calls Tryd.prog 116 #[.int .u64 a0, .int .u64 a1] w fun e w' => e = .returned (.bool r) ∧ Drawn0 w w' := by
  have H : (some (decide (a0 > a1))) = some r := h
  clear h
  obtain rfl := Option.some.inj H
  go_enter Tryd.func116, Tryd.ntmps116
  go_wp2
  go_ret
  exact ⟨by first | rfl | (simp; done) | (simp [*]; done), by repeat (first | exact Drawn0.refl _ | apply Drawn0.step)⟩

/-! ### packfile_sumOverflows: function 130 -/
def packfile_sumOverflows.f (a0 : Int) (a1 : Int) : Option (Bool) := some (decide ((IntKind.u64.wrap (a0 + a1)) < a0))
set_option maxHeartbeats 8000000 in
set_option maxRecDepth 100000 in
theorem packfile_sumOverflows.calls (a0 : Int) (a1 : Int) (r : Bool) (w : World) (h : packfile_sumOverflows.f a0 a1 = some r) :
    Calls Tryd.prog 130 #[.int .u64 a0, .int .u64 a1] w fun e w' => e = .returned (.bool r) ∧ Drawn0 w w' := by
  have H : (some (decide ((IntKind.u64.wrap (a0 + a1)) < a0))) = some r := h
  clear h
  obtain rfl := Option.some.inj H
  go_enter Tryd.func130, Tryd.ntmps130
  go_wp2
  go_ret
  exact ⟨by first | rfl | (simp; done) | (simp [*]; done), by repeat (first | exact Drawn0.refl _ | apply Drawn0.step)⟩

/-! ### packfile_invalidOffsetSize: function 117 -/
def packfile_invalidOffsetSize.f (a0 : Int) (a1 : Int) (a2 : Int) : Option (Bool) := (packfile_sumOverflows.f a0 a1).bind fun t104 => (if t104 = true then (some true) else (some (decide ((IntKind.u64.wrap (a0 + a1)) > a2))))
set_option maxHeartbeats 8000000 in
set_option maxRecDepth 100000 in
theorem packfile_invalidOffsetSize.calls (a0 : Int) (a1 : Int) (a2 : Int) (r : Bool) (w : World) (h : packfile_invalidOffsetSize.f a0 a1 a2 = some r) :
    Calls Tryd.prog 117 #[.int .u64 a0, .int .u64 a1, .int .u64 a2] w fun e w' => e = .returned (.bool r) ∧ Drawn0 w w' := by
  have H : ((packfile_sumOverflows.f a0 a1).bind fun t104 => (if t104 = true then (some true) else (some (decide ((IntKind.u64.wrap (a0 + a1)) > a2))))) = some r := h
  clear h
  replace H := Option.bind_eq_some_iff.mp H
  obtain ⟨t104, A40, H⟩ := H
  replace H : (if t104 = true then (some true) else (some (decide ((IntKind.u64.wrap (a0 + a1)) > a2)))) = some r := H
  have A4 := Aside0.mk A40
  clear A40
  by_cases c5 : t104 = true
  · subst c5
    have H1 : (some true) = some r := by rw [if_pos rfl] at H; exact H
    clear H
    have H := H1
    clear H1
    obtain rfl := Option.some.inj H
    go_enter Tryd.func117, Tryd.ntmps117
    go_wp2_with (first | ((with_reducible refine gate_callee (f := 130) rfl ?_); refine goesL_ (some 9) rfl rfl Tryd.func130 (by kernel_rfl) rfl #[.int .u64 a0, .int .u64 a1] rfl (by (try simp only [List.map_toArray, List.map_cons, List.map_nil]); first | done | rfl | (simp only [List.length_drop, List.length_take]; rfl)) ?_; (with_reducible refine (packfile_sumOverflows.calls a0 a1 true _ A4.out).mono ?_); rintro e w' ⟨rfl, ⟨nd, rfl⟩⟩; refine ⟨_, rfl, ?_⟩))
    go_ret
    exact ⟨by first | rfl | (simp; done) | (simp [*]; done), by repeat (first | exact Drawn0.refl _ | apply Drawn0.step)⟩
  · replace c5 := Bool.eq_false_iff.mpr c5
    subst c5
    have H1 : (some (decide ((IntKind.u64.wrap (a0 + a1)) > a2))) = some r := by rw [if_neg (show ¬ (false = true) by decide)] at H; exact H
    clear H
    have H := H1
    clear H1
    obtain rfl := Option.some.inj H
    go_enter Tryd.func117, Tryd.ntmps117
    go_wp2_with (first | ((with_reducible refine gate_callee (f := 130) rfl ?_); refine goesL_ (some 9) rfl rfl Tryd.func130 (by kernel_rfl) rfl #[.int .u64 a0, .int .u64 a1] rfl (by (try simp only [List.map_toArray, List.map_cons, List.map_nil]); first | done | rfl | (simp only [List.length_drop, List.length_take]; rfl)) ?_; (with_reducible refine (packfile_sumOverflows.calls a0 a1 false _ A4.out).mono ?_); rintro e w' ⟨rfl, ⟨nd, rfl⟩⟩; refine ⟨_, rfl, ?_⟩))
    go_ret
    exact ⟨by first | rfl | (simp; done) | (simp [*]; done), by repeat (first | exact Drawn0.refl _ | apply Drawn0.step)⟩

-- NOT PRINTED: function 118 (bytes_Buffer_Write)

/-! ### packfile_isCopyFromDelta: function 119 -/
def packfile_isCopyFromDelta.f (a0 : Int) : Option (Bool) := if (Go.bits .and .u8 a0 128) = 0 then (some (a0 != 0)) else (some false)
set_option maxHeartbeats 8000000 in
set_option maxRecDepth 100000 in
theorem packfile_isCopyFromDelta.calls (a0 : Int) (r : Bool) (w : World) (h : packfile_isCopyFromDelta.f a0 = some r) :
    Calls Tryd.prog 119 #[.int .u8 a0] w fun e w' => e = .returned (.bool r) ∧ Drawn0 w w' := by
  have H : (if (Go.bits .and .u8 a0 128) = 0 then (some (a0 != 0)) else (some false)) = some r := h
  clear h
  by_cases c2 : (Go.bits .and .u8 a0 128) = 0
  · rw [if_pos c2] at H
    have c2b0 : ((Go.bits .and .u8 a0 128) == 0) = true := beq_iff_eq.mpr c2
    have c2b1 : ((Go.bits .and .u8 a0 128) != 0) = false := bne_eq_false_iff_eq.mpr c2
    clear c2
    obtain rfl := Option.some.inj H
    go_enter Tryd.func119, Tryd.ntmps119
    go_wp2
    go_ret
    exact ⟨by first | rfl | (simp; done) | (simp [*]; done), by repeat (first | exact Drawn0.refl _ | apply Drawn0.step)⟩
  · rw [if_neg c2] at H
    have c2b0 : ((Go.bits .and .u8 a0 128) == 0) = false := beq_eq_false_iff_ne.mpr c2
    have c2b1 : ((Go.bits .and .u8 a0 128) != 0) = true := bne_iff_ne.mpr c2
    obtain rfl := Option.some.inj H
    go_enter Tryd.func119, Tryd.ntmps119
    go_wp2
    go_ret
    exact ⟨by first | rfl | (simp; done) | (simp [*]; done), by repeat (first | exact Drawn0.refl _ | apply Drawn0.step)⟩

-- NOT PRINTED: function 87 (packfile_patchDelta)

-- NOT PRINTED: function 88 (bytes_Buffer_Bytes)

-- NOT PRINTED: function 61 (packfile_PatchDelta)

-- NOT PRINTED: function 32 (impl_Patch)

-- NOT PRINTED: function 28 (laws_deltaWorks)

/-! ### spec_Size7: function 30 -/
def spec_Size7.l0 : Nat → Int → List Int → Option (List Int)
  | 0, _, _ => none
  | k + 1, x0, x3 => if x0 ≥ 128 then (if x3.length < 140737488355328 then (spec_Size7.l0 k (wrap64 (Int.tdiv x0 128)) (x3 ++ [(wrap64 ((Int.tmod x0 128) + 128)) % 256])) else (none)) else (if x3.length < 140737488355328 then (some (x3 ++ [(x0) % 256])) else (none))
def spec_Size7.f (k : Nat) (a0 : Int) : Option (List Int) := spec_Size7.l0 k a0 ([] : List Int)
theorem spec_Size7.mono_l : ∀ k, (∀ y0 y1, LeO (spec_Size7.l0 k y0 y1) (spec_Size7.l0 (k + 1) y0 y1))
  | 0 => fun _ _ r h => by simp [spec_Size7.l0] at h
  | k + 1 => by
    have ih0 := spec_Size7.mono_l k
    · intro y0 y1
      unfold spec_Size7.l0
      repeat' first
      | (with_reducible exact ih0 _ _)
      | (with_reducible exact LeO.refl _)
      | (with_reducible exact LeO.none _)
      | (with_reducible refine LeO.ite ?_ ?_)
      | (with_reducible refine LeO.bind ?_ (fun _ => ?_))
      | exact ih0 _ _
      | exact LeO.none _
      | refine LeO.ite ?_ ?_
      | refine LeO.bind ?_ (fun _ => ?_)
theorem spec_Size7.mono : ∀ a0 k, LeO (spec_Size7.f k a0) (spec_Size7.f (k + 1) a0) := by
  intro a0 k
  have ih0 := spec_Size7.mono_l k
  unfold spec_Size7.f
  repeat' first
      | (with_reducible exact ih0 _ _)
      | (with_reducible exact LeO.refl _)
      | (with_reducible exact LeO.none _)
      | (with_reducible refine LeO.ite ?_ ?_)
      | (with_reducible refine LeO.bind ?_ (fun _ => ?_))
      | exact ih0 _ _
      | exact LeO.none _
      | refine LeO.ite ?_ ?_
      | refine LeO.bind ?_ (fun _ => ?_)
set_option maxHeartbeats 8000000 in
set_option maxRecDepth 100000 in
theorem spec_Size7.calls (k : Nat) (a0 : Int) (r : List Int) (w : World) (h : spec_Size7.f k a0 = some r) :
    Calls Tryd.prog 30 #[.int .i64 a0] w fun e w' => ∃ v0_ : Value, e = .returned (v0_) ∧ Kd.R (Kd.int .u8) 5 w' w.heap.size (fun _ => True) v0_ r ∧ Below w.heap.size w w' := by
  have HB := Aside0.mk (Below.refl w.heap.size w)
  have H : (spec_Size7.l0 k a0 ([] : List Int)) = some r := h
  clear h
  have H' := Aside0.mk H
  clear H
  go_enter Tryd.func30, Tryd.ntmps30
  go_wp2
  go_loopg [0, 3] k (fun kq v0 v3 w' => ∃ (x0_1 : Int) (x3_1 : List Int), v0 = .int .i64 x0_1 ∧ Aside0 (spec_Size7.l0 kq x0_1 x3_1 = some r) ∧ Aside0 (kq ≤ k) ∧ Aside0 (Kd.R (Kd.int .u8) 5 w' w.heap.size (fun _ => True) v3 x3_1) ∧ Aside0 (Below w.heap.size w w'))
  case atStart => exact ⟨(a0), (([] : List Int)), (by first | rfl | (simp; done) | (simp [*]; done)), H', ⟨Nat.le_refl _⟩, ⟨by first | exact Kd.R_nil _ _ _ _ _ | exact Kd.N_nil _ _ _ _ _ | exact Kd.V_nil _ _ _ _ _ | exact Kd.Q_nil _ _ _ _ _ | exact Kd.S_nil _ _ _ _ _⟩, ⟨by repeat (first | (with_reducible first | exact HB.out | apply below_alloc | apply pw_below_drewN | apply below_drew1) | exact HB.out)⟩⟩
  case round =>
    clear H'
    obtain ⟨x0_1, x3_1, rfl, HA, HK1, HO_3, HB⟩ := hrel
    cases gk with
    | zero => exact absurd HA.out (by simp [spec_Size7.l0])
    | succ k1 =>
      have H := HA.out
      clear HA
      simp only [spec_Size7.l0] at H
      by_cases c2 : x0_1 ≥ 128
      · rw [if_pos c2] at H
        have c2b0 : decide (128 ≤ x0_1) = true := decide_eq_true c2
        clear c2
        by_cases c3 : x3_1.length < 140737488355328
        · rw [if_pos c3] at H
          have LMc3 := Aside0.mk c3
          clear c3
          obtain ⟨y123, hy123⟩ : ∃ y_ : List Int, y_ = (x3_1 ++ [(wrap64 ((Int.tmod x0_1 128) + 128)) % 256]) := ⟨_, rfl⟩
          replace H : (spec_Size7.l0 k1 (wrap64 (Int.tdiv x0_1 128)) y123) = some r := by first | (rw [hy123]; with_reducible exact H) | (have H2_ := (Option.bind_some _ _).symm.trans H; rw [hy123]; with_reducible exact H2_) | (have H2_ := (Option.bind_some _ _).symm.trans H; with_reducible exact H2_) | with_reducible exact H | (rw [hy123]; exact H) | exact H
          have Ny123 := Aside0.mk hy123
          clear hy123
          have H' := Aside0.mk H
          clear H
          go_wp2_with (first | ((with_reducible refine gate_builtin (b := .append) (xs := #[.tmp 6, .tmp 11]) rfl ?_); at_builtin; refine Kd.R_append (Kd.int .u8) (w0 := w) w.heap.size rfl (.tmp 6) (.tmp 11) 44 5 (.int .u8 0) 1 rfl Tryd.underlying44 info5 rfl (by decide) (by omega) u3 x3_1 ((wrap64 ((Int.tmod x0_1 128) + 128)) % 256) [.int .u8 ((wrap64 ((Int.tmod x0_1 128) + 128)) % 256)] (fun _ => True) (fun _ => False) rfl rfl ?aP (fun _ hk => hk.elim) ?aF ?aO ?aB ?aS ?aL ?_; (case aP => exact rfl); (case aB => exact (by repeat (first | (with_reducible first | exact HB.out | apply below_alloc | apply pw_below_drewN | apply below_drew1) | exact HB.out))); (case aF => exact (fun _ _ => trivial)); (case aO => exact (by (with_reducible repeat (first | apply Kd.R_alloc | apply Kd.R_drewN | apply Kd.R_drew)); exact HO_3.out)); (case aS => exact (below_size (by repeat (first | (with_reducible first | exact HB.out | apply below_alloc | apply pw_below_drewN | apply below_drew1) | exact HB.out)))); (case aL => have := LMc3.out; omega); intro v124 w4 ho hb hg hat; rw [← Ny123.out] at ho; have n0_ := Aside0.mk (hb); have n1_ := Aside0.mk (ho); clear HB; clear HO_3; have HB := n0_; have HO125 := n1_; clear n0_ n1_; clear ho hb hg hat))
          go_roundg k1
          case measure => have := HK1.out; omega
          case rel => exact ⟨(wrap64 (Int.tdiv x0_1 128)), (y123), (by first | rfl | (simp; done) | (simp [*]; done)), H', ⟨by have := HK1.out; omega⟩, ⟨by (with_reducible repeat (first | apply Kd.R_alloc | apply Kd.R_drewN | apply Kd.R_drew)); exact HO125.out⟩, ⟨by repeat (first | (with_reducible first | exact HB.out | apply below_alloc | apply pw_below_drewN | apply below_drew1) | exact HB.out)⟩⟩
        · rw [if_neg c3] at H
          exact absurd H (by simp)
      · rw [if_neg c2] at H
        have c2b0 : decide (128 ≤ x0_1) = false := decide_eq_false c2
        clear c2
        by_cases c5 : x3_1.length < 140737488355328
        · rw [if_pos c5] at H
          have LMc5 := Aside0.mk c5
          clear c5
          obtain ⟨y126, hy126⟩ : ∃ y_ : List Int, y_ = (x3_1 ++ [(x0_1) % 256]) := ⟨_, rfl⟩
          replace H : (some y126) = some r := by first | (rw [hy126]; with_reducible exact H) | (have H2_ := (Option.bind_some _ _).symm.trans H; rw [hy126]; with_reducible exact H2_) | (have H2_ := (Option.bind_some _ _).symm.trans H; with_reducible exact H2_) | with_reducible exact H | (rw [hy126]; exact H) | exact H
          have Ny126 := Aside0.mk hy126
          clear hy126
          obtain rfl := Option.some.inj H
          go_wp2_with (first | ((with_reducible refine gate_builtin (b := .append) (xs := #[.tmp 15, .tmp 18]) rfl ?_); at_builtin; refine Kd.R_append (Kd.int .u8) (w0 := w) w.heap.size rfl (.tmp 15) (.tmp 18) 44 5 (.int .u8 0) 1 rfl Tryd.underlying44 info5 rfl (by decide) (by omega) u3 x3_1 ((x0_1) % 256) [.int .u8 ((x0_1) % 256)] (fun _ => True) (fun _ => False) rfl rfl ?aP (fun _ hk => hk.elim) ?aF ?aO ?aB ?aS ?aL ?_; (case aP => exact rfl); (case aB => exact (by repeat (first | (with_reducible first | exact HB.out | apply below_alloc | apply pw_below_drewN | apply below_drew1) | exact HB.out))); (case aF => exact (fun _ _ => trivial)); (case aO => exact (by (with_reducible repeat (first | apply Kd.R_alloc | apply Kd.R_drewN | apply Kd.R_drew)); exact HO_3.out)); (case aS => exact (below_size (by repeat (first | (with_reducible first | exact HB.out | apply below_alloc | apply pw_below_drewN | apply below_drew1) | exact HB.out)))); (case aL => have := LMc5.out; omega); intro v127 w6 ho hb hg hat; rw [← Ny126.out] at ho; have n0_ := Aside0.mk (hb); have n1_ := Aside0.mk (ho); clear HB; clear HO_3; have HB := n0_; have HO128 := n1_; clear n0_ n1_; clear ho hb hg hat))
          go_ret
          exact ⟨_, by first | rfl | (simp [errW_none, errW_some] <;> rfl) | (simp [*, errW_none, errW_some] <;> rfl), by (with_reducible repeat (first | apply Kd.R_alloc | apply Kd.R_drewN | apply Kd.R_drew)); exact HO128.out, by repeat (first | (with_reducible first | exact HB.out | apply below_alloc | apply pw_below_drewN | apply below_drew1) | exact HB.out)⟩
        · rw [if_neg c5] at H
          exact absurd H (by simp)

/-! ### spec_Made: function 31 -/
def spec_Made.l0 : Nat → List Int → List Int → List (S56) → Int → Int → Option (List Int)
  | 0, _, _, _, _, _ => none
  | k + 1, x0, x5, x8, x9, x10 => if x10 < x9 then (if 0 ≤ x10 then (if x10 < (x8.length : Int) then (if (rd_T56 x8 x10).f0 = true then (if 0 ≤ ((rd_T56 x8 x10).f1) then (if ((rd_T56 x8 x10).f1) ≤ (wrap64 (((rd_T56 x8 x10).f1) + ((rd_T56 x8 x10).f2))) then (if (wrap64 (((rd_T56 x8 x10).f1) + ((rd_T56 x8 x10).f2))) ≤ (x0.length : Int) then (if x5.length + ((x0.take ((wrap64 (((rd_T56 x8 x10).f1) + ((rd_T56 x8 x10).f2))) : Int).toNat).drop (((rd_T56 x8 x10).f1) : Int).toNat).length < 140737488355328 then (spec_Made.l0 k x0 (x5 ++ ((x0.take ((wrap64 (((rd_T56 x8 x10).f1) + ((rd_T56 x8 x10).f2))) : Int).toNat).drop (((rd_T56 x8 x10).f1) : Int).toNat)) x8 x9 (wrap64 (x10 + 1))) else (none)) else (none)) else (none)) else (none)) else (if x5.length + ((rd_T56 x8 x10).f3).length < 140737488355328 then (spec_Made.l0 k x0 (x5 ++ ((rd_T56 x8 x10).f3)) x8 x9 (wrap64 (x10 + 1))) else (none))) else (none)) else (none)) else (some x5)
def spec_Made.f (k : Nat) (l0 : List Int) (l1 : List (S56)) : Option (List Int) := spec_Made.l0 k l0 ([] : List Int) l1 (l1.length : Int) 0
theorem spec_Made.mono_l : ∀ k, (∀ y0 y1 y2 y3 y4, LeO (spec_Made.l0 k y0 y1 y2 y3 y4) (spec_Made.l0 (k + 1) y0 y1 y2 y3 y4))
  | 0 => fun _ _ _ _ _ r h => by simp [spec_Made.l0] at h
  | k + 1 => by
    have ih0 := spec_Made.mono_l k
    · intro y0 y1 y2 y3 y4
      unfold spec_Made.l0
      repeat' first
      | (with_reducible exact ih0 _ _ _ _ _)
      | (with_reducible exact LeO.refl _)
      | (with_reducible exact LeO.none _)
      | (with_reducible refine LeO.ite ?_ ?_)
      | (with_reducible refine LeO.bind ?_ (fun _ => ?_))
      | exact ih0 _ _ _ _ _
      | exact LeO.none _
      | refine LeO.ite ?_ ?_
      | refine LeO.bind ?_ (fun _ => ?_)
theorem spec_Made.mono : ∀ a0 a1 k, LeO (spec_Made.f k a0 a1) (spec_Made.f (k + 1) a0 a1) := by
  intro a0 a1 k
  have ih0 := spec_Made.mono_l k
  unfold spec_Made.f
  repeat' first
      | (with_reducible exact ih0 _ _ _ _ _)
      | (with_reducible exact LeO.refl _)
      | (with_reducible exact LeO.none _)
      | (with_reducible refine LeO.ite ?_ ?_)
      | (with_reducible refine LeO.bind ?_ (fun _ => ?_))
      | exact ih0 _ _ _ _ _
      | exact LeO.none _
      | refine LeO.ite ?_ ?_
      | refine LeO.bind ?_ (fun _ => ?_)
set_option maxHeartbeats 8000000 in
set_option maxRecDepth 100000 in
theorem spec_Made.calls (k : Nat) (A0 : Option Addr) (c0 : Nat) (l0 : List Int) (A1 : Option Addr) (c1 : Nat) (l1 : List (S56)) (r : List Int) (w : World) (hr0 : Kd.C (Kd.int .u8) w A0 l0.length l0) (hc0 : l0.length ≤ c0) (hr1 : Kd.C k56 w A1 l1.length l1) (hc1 : l1.length ≤ c1) (h : spec_Made.f k l0 l1 = some r) :
    Calls Tryd.prog 31 #[.slice A0 l0.length c0, .slice A1 l1.length c1] w fun e w' => ∃ v0_ : Value, e = .returned (v0_) ∧ Kd.R (Kd.int .u8) 5 w' w.heap.size (fun _ => True) v0_ r ∧ Below w.heap.size w w' := by
  have hu56 := Tryd.underlying56
  have HR0 := Aside0.mk hr0
  have HC0 := Aside0.mk hc0
  clear hr0 hc0
  have HR1 := Aside0.mk hr1
  have HC1 := Aside0.mk hc1
  clear hr1 hc1
  have HB := Aside0.mk (Below.refl w.heap.size w)
  have H : (spec_Made.l0 k l0 ([] : List Int) l1 (l1.length : Int) 0) = some r := h
  clear h
  have H' := Aside0.mk H
  clear H
  go_enter Tryd.func31, Tryd.ntmps31
  go_wp2
  go_loopg [5, 10] k (fun kq v5 v10 w' => ∃ (x5_1 : List Int) (x10_1 : Int), v10 = .int .i64 x10_1 ∧ Aside0 (spec_Made.l0 kq l0 x5_1 l1 (l1.length : Int) x10_1 = some r) ∧ Aside0 (kq ≤ k) ∧ Aside0 (Kd.R (Kd.int .u8) 5 w' w.heap.size (fun _ => True) v5 x5_1) ∧ Aside0 (Below w.heap.size w w'))
  case atStart => exact ⟨(([] : List Int)), (0), (by first | rfl | (simp; done) | (simp [*]; done)), H', ⟨Nat.le_refl _⟩, ⟨by first | exact Kd.R_nil _ _ _ _ _ | exact Kd.N_nil _ _ _ _ _ | exact Kd.V_nil _ _ _ _ _ | exact Kd.Q_nil _ _ _ _ _ | exact Kd.S_nil _ _ _ _ _⟩, ⟨by repeat (first | (with_reducible first | exact HB.out | apply below_alloc | apply pw_below_drewN | apply below_drew1) | exact HB.out)⟩⟩
  case round =>
    clear H'
    try clear c1
    try clear p2
    obtain ⟨x5_1, x10_1, rfl, HA, HK1, HO_5, HB⟩ := hrel
    cases gk with
    | zero => exact absurd HA.out (by simp [spec_Made.l0])
    | succ k1 =>
      have H := HA.out
      clear HA
      simp only [spec_Made.l0] at H
      by_cases c3 : x10_1 < (l1.length : Int)
      · rw [if_pos c3] at H
        have c3b0 : decide (x10_1 < (l1.length : Int)) = true := decide_eq_true c3
        clear c3
        by_cases c4 : 0 ≤ x10_1
        · rw [if_pos c4] at H
          have c4b0 : decide (0 ≤ x10_1) = true := decide_eq_true c4
          clear c4
          by_cases c5 : x10_1 < (l1.length : Int)
          · rw [if_pos c5] at H
            have c5b0 : decide (x10_1 < (l1.length : Int)) = true := decide_eq_true c5
            clear c5
            obtain ⟨bq6, hbq6⟩ : ∃ b_ : Bool, b_ = ((rd_T56 l1 x10_1).f0) := ⟨_, rfl⟩
            replace H : (if bq6 = true then (if 0 ≤ ((rd_T56 l1 x10_1).f1) then (if ((rd_T56 l1 x10_1).f1) ≤ (wrap64 (((rd_T56 l1 x10_1).f1) + ((rd_T56 l1 x10_1).f2))) then (if (wrap64 (((rd_T56 l1 x10_1).f1) + ((rd_T56 l1 x10_1).f2))) ≤ (l0.length : Int) then (if x5_1.length + ((l0.take ((wrap64 (((rd_T56 l1 x10_1).f1) + ((rd_T56 l1 x10_1).f2))) : Int).toNat).drop (((rd_T56 l1 x10_1).f1) : Int).toNat).length < 140737488355328 then (spec_Made.l0 k1 l0 (x5_1 ++ ((l0.take ((wrap64 (((rd_T56 l1 x10_1).f1) + ((rd_T56 l1 x10_1).f2))) : Int).toNat).drop (((rd_T56 l1 x10_1).f1) : Int).toNat)) l1 (l1.length : Int) (wrap64 (x10_1 + 1))) else (none)) else (none)) else (none)) else (none)) else (if x5_1.length + ((rd_T56 l1 x10_1).f3).length < 140737488355328 then (spec_Made.l0 k1 l0 (x5_1 ++ ((rd_T56 l1 x10_1).f3)) l1 (l1.length : Int) (wrap64 (x10_1 + 1))) else (none))) = some r := by rw [← hbq6] at H; exact H
            have Nbq6 := Aside0.mk hbq6
            clear hbq6
            by_cases c7 : bq6 = true
            · subst c7
              have H1 : (if 0 ≤ ((rd_T56 l1 x10_1).f1) then (if ((rd_T56 l1 x10_1).f1) ≤ (wrap64 (((rd_T56 l1 x10_1).f1) + ((rd_T56 l1 x10_1).f2))) then (if (wrap64 (((rd_T56 l1 x10_1).f1) + ((rd_T56 l1 x10_1).f2))) ≤ (l0.length : Int) then (if x5_1.length + ((l0.take ((wrap64 (((rd_T56 l1 x10_1).f1) + ((rd_T56 l1 x10_1).f2))) : Int).toNat).drop (((rd_T56 l1 x10_1).f1) : Int).toNat).length < 140737488355328 then (spec_Made.l0 k1 l0 (x5_1 ++ ((l0.take ((wrap64 (((rd_T56 l1 x10_1).f1) + ((rd_T56 l1 x10_1).f2))) : Int).toNat).drop (((rd_T56 l1 x10_1).f1) : Int).toNat)) l1 (l1.length : Int) (wrap64 (x10_1 + 1))) else (none)) else (none)) else (none)) else (none)) = some r := by rw [if_pos rfl] at H; exact H
              clear H
              have H := H1
              clear H1
              by_cases c8 : 0 ≤ ((rd_T56 l1 x10_1).f1)
              · rw [if_pos c8] at H
                have c8b0 := eq_true c8
                have c8b1 : decide (0 ≤ ((rd_T56 l1 x10_1).f1)) = true := decide_eq_true c8
                clear c8
                by_cases c9 : ((rd_T56 l1 x10_1).f1) ≤ (wrap64 (((rd_T56 l1 x10_1).f1) + ((rd_T56 l1 x10_1).f2)))
                · rw [if_pos c9] at H
                  have c9b0 := eq_true c9
                  have c9b1 : decide (((rd_T56 l1 x10_1).f1) ≤ (wrap64 (((rd_T56 l1 x10_1).f1) + ((rd_T56 l1 x10_1).f2)))) = true := decide_eq_true c9
                  by_cases c10 : (wrap64 (((rd_T56 l1 x10_1).f1) + ((rd_T56 l1 x10_1).f2))) ≤ (l0.length : Int)
                  · rw [if_pos c10] at H
                    have c10b0 := eq_true c10
                    have c10b1 : decide ((wrap64 (((rd_T56 l1 x10_1).f1) + ((rd_T56 l1 x10_1).f2))) ≤ (l0.length : Int)) = true := decide_eq_true c10
                    by_cases c11 : x5_1.length + ((l0.take ((wrap64 (((rd_T56 l1 x10_1).f1) + ((rd_T56 l1 x10_1).f2))) : Int).toNat).drop (((rd_T56 l1 x10_1).f1) : Int).toNat).length < 140737488355328
                    · rw [if_pos c11] at H
                      have LMc11 := Aside0.mk c11
                      clear c11
                      obtain ⟨y132, hy132⟩ : ∃ y_ : List Int, y_ = (x5_1 ++ ((l0.take ((wrap64 (((rd_T56 l1 x10_1).f1) + ((rd_T56 l1 x10_1).f2))) : Int).toNat).drop (((rd_T56 l1 x10_1).f1) : Int).toNat)) := ⟨_, rfl⟩
                      replace H : (spec_Made.l0 k1 l0 y132 l1 (l1.length : Int) (wrap64 (x10_1 + 1))) = some r := by first | (rw [hy132]; with_reducible exact H) | (have H2_ := (Option.bind_some _ _).symm.trans H; rw [hy132]; with_reducible exact H2_) | (have H2_ := (Option.bind_some _ _).symm.trans H; with_reducible exact H2_) | with_reducible exact H | (rw [hy132]; exact H) | exact H
                      have Ny132 := Aside0.mk hy132
                      clear hy132
                      have H' := Aside0.mk H
                      clear H
                      have p129 : 0 ≤ (x10_1 : Int) := of_decide_eq_true (by first | (with_reducible assumption) | assumption)
                      have q129 : x10_1 < (l1.length : Int) := of_decide_eq_true (by first | (with_reducible assumption) | assumption)
                      obtain ⟨ad129, A129_3, c129_3, e129, hx129_0, hx129_1, hx129_2, hx129_3, hx129_4, hl129_3, hi129_3⟩ := at_T56 HR1.out x10_1 p129 q129
                      (try rw [← Nbq6.out] at hx129_0)
                      cases e129
                      replace hx129_0 := (HB.out.cell (World.block_lt_of_cell? w _ hx129_0)).trans hx129_0
                      replace hx129_1 := (HB.out.cell (World.block_lt_of_cell? w _ hx129_1)).trans hx129_1
                      replace hx129_2 := (HB.out.cell (World.block_lt_of_cell? w _ hx129_2)).trans hx129_2
                      replace hx129_3 := (HB.out.cell (World.block_lt_of_cell? w _ hx129_3)).trans hx129_3
                      replace hx129_4 := (HB.out.cell (World.block_lt_of_cell? w _ hx129_4)).trans hx129_4
                      have HR129_3 := Aside0.mk hi129_3
                      have HC129_3 := Aside0.mk hl129_3
                      clear hi129_3 hl129_3
                      replace p129 := eq_true p129
                      replace q129 := eq_true q129
                      go_wp2_with (first | ((with_reducible refine gate_dst (N := 7) rfl ?_); refine box_event ?hg (N := 7) ?hd (cs := #[.bool false, .int .i64 0, .int .i64 0, .slice none 0 0, .int .i64 0]) (t := 56) ?hr ?_; (case hd => rfl); (case hg => rfl); (case hr => first | (go_simp; done) | (go_simp; rfl)); intro gb130 hg w12 hbox hb; have n0_ := Aside0.mk (Kd.R_below (by (with_reducible repeat (first | apply Kd.R_alloc | apply Kd.R_drewN | apply Kd.R_drew)); exact HO_5.out) hb); have n1_ := Aside0.mk (below_step (by repeat (first | (with_reducible first | exact HB.out | apply below_alloc | apply pw_below_drewN | apply below_drew1) | exact HB.out)) hb); have n2_ := Aside0.mk (hbox); have n3_ := Aside0.mk ((by rw [hg]; exact (below_size (by repeat (first | (with_reducible first | exact HB.out | apply below_alloc | apply pw_below_drewN | apply below_drew1) | exact HB.out))) : w.heap.size ≤ gb130)); have n4_ := Aside0.mk ((by rw [hg]; exact (below_size (by repeat (first | (with_reducible first | exact HB.out | apply below_alloc | apply pw_below_drewN | apply below_drew1) | exact HB.out))) : w.heap.size ≤ gb130)); clear HO_5; clear HB; have HO_5 := n0_; have HB := n1_; have BK130 := n2_; have GW130 := n3_; have GE130 := n4_; clear n0_ n1_ n2_ n3_ n4_; clear hb hbox hg; have hcz13_0 : w12.cell? ⟨gb130, 0, none⟩ = some (.bool false) := (blk_cell BK130.out 0).trans rfl; have hcz13_1 : w12.cell? ⟨gb130, 1, none⟩ = some (.int .i64 0) := (blk_cell BK130.out 1).trans rfl; have hcz13_2 : w12.cell? ⟨gb130, 2, none⟩ = some (.int .i64 0) := (blk_cell BK130.out 2).trans rfl; have hcz13_3 : w12.cell? ⟨gb130, 3, none⟩ = some (.slice none 0 0) := (blk_cell BK130.out 3).trans rfl; have hcz13_4 : w12.cell? ⟨gb130, 4, none⟩ = some (.int .i64 0) := (blk_cell BK130.out 4).trans rfl; have hfz13_0 := blk_frozen BK130.out 0; have hfz13_1 := blk_frozen BK130.out 1; have hfz13_2 := blk_frozen BK130.out 2; have hfz13_3 := blk_frozen BK130.out 3; have hfz13_4 := blk_frozen BK130.out 4; obtain ⟨i014, hi014, _, hsz14, _⟩ := info_parts info5; obtain ⟨A14, hcut14, hA14, hC14⟩ := print_mid_of (P := Tryd.prog) (Value.int .u8) 0 44 5 .i64 .i64 Tryd.underlying44 hi014 hsz14 A0 c0 l0 ((rd_T56 l1 x10_1).f1) (wrap64 (((rd_T56 l1 x10_1).f1) + ((rd_T56 l1 x10_1).f2))) (of_decide_eq_true (by first | (with_reducible assumption) | assumption)) (by first | omega | exact of_decide_eq_true (by first | (with_reducible assumption) | assumption)) (of_decide_eq_true (by first | (with_reducible assumption) | assumption)) HC0.out; have HR131 := Aside0.mk (Kd.C_of_reads (h1 := fun _ => rfl) (hA14 _ (Kd.reads_of_C HR0.out))); have HC131 := Aside0.mk hC14; clear hA14 hC14 hi014 hsz14) | ((with_reducible refine gate_builtin (b := .append) (xs := #[.tmp 16, .tmp 25]) rfl ?_); at_builtin; refine Kd.R_append_rows (Kd.int .u8) (w0 := w) w.heap.size rfl (.tmp 16) (.tmp 25) 44 5 (.int .u8 0) 1 rfl Tryd.underlying44 info5 rfl (by decide) (by omega) u5 x5_1 ((l0.take ((wrap64 (((rd_T56 l1 x10_1).f1) + ((rd_T56 l1 x10_1).f2))) : Int).toNat).drop (((rd_T56 l1 x10_1).f1) : Int).toNat) _ _ _ (fun _ => True) (fun _ => False) rfl rfl ?aO ?aR (fun _ _ h => h) (fun _ h => h.elim) ?aF ?aB ?aS ?aL ?_; (case aR => first | (rw [← show ((l0.take ((wrap64 (((rd_T56 l1 x10_1).f1) + ((rd_T56 l1 x10_1).f2))) : Int).toNat).drop (((rd_T56 l1 x10_1).f1) : Int).toNat).length = ((wrap64 (((rd_T56 l1 x10_1).f1) + ((rd_T56 l1 x10_1).f2))).toNat - ((rd_T56 l1 x10_1).f1).toNat) from (by rw [List.length_drop, List.length_take]; have h_ : ((wrap64 (((rd_T56 l1 x10_1).f1) + ((rd_T56 l1 x10_1).f2))) : Int) ≤ (l0.length : Int) := of_decide_eq_true (by first | (with_reducible assumption) | assumption); omega)]; exact Kd.C_below HR131.out (by repeat (first | (with_reducible first | exact HB.out | apply below_alloc | apply pw_below_drewN | apply below_drew1 | refine below_set ?_ GE130.out) | exact HB.out))) | (exact Kd.C_below HR131.out (by repeat (first | (with_reducible first | exact HB.out | apply below_alloc | apply pw_below_drewN | apply below_drew1 | refine below_set ?_ GE130.out) | exact HB.out)))); (case aB => exact (by repeat (first | (with_reducible first | exact HB.out | apply below_alloc | apply pw_below_drewN | apply below_drew1 | refine below_set ?_ GE130.out) | exact HB.out))); (case aF => exact (fun _ _ => trivial)); (case aO => exact (by (with_reducible repeat (first | apply Kd.R_alloc | apply Kd.R_drewN | apply Kd.R_drew)); exact Kd.R_mono (Kd.R_far (p := ⟨gb130, 4, none⟩) (Kd.R_far (p := ⟨gb130, 3, none⟩) (Kd.R_far (p := ⟨gb130, 2, none⟩) (Kd.R_far (p := ⟨gb130, 1, none⟩) (Kd.R_far (p := ⟨gb130, 0, none⟩) (Kd.R_types HO_5.out BK130.out (by decide)) (fun _ hk => hk.2) (.bool true)) (fun _ hk => hk.2) (.int .i64 ((rd_T56 l1 x10_1).f1))) (fun _ hk => hk.2) (.int .i64 ((rd_T56 l1 x10_1).f2))) (fun _ hk => hk.2) (.slice A129_3 ((rd_T56 l1 x10_1).f3).length c129_3)) (fun _ hk => hk.2) (.int .i64 ((rd_T56 l1 x10_1).f4))) (fun _ hk => trivial))); (case aS => exact (below_size (by repeat (first | (with_reducible first | exact HB.out | apply below_alloc | apply pw_below_drewN | apply below_drew1 | refine below_set ?_ GE130.out) | exact HB.out)))); (case aL => have := LMc11.out; have hlx_ := (show ((l0.take ((wrap64 (((rd_T56 l1 x10_1).f1) + ((rd_T56 l1 x10_1).f2))) : Int).toNat).drop (((rd_T56 l1 x10_1).f1) : Int).toNat).length = ((wrap64 (((rd_T56 l1 x10_1).f1) + ((rd_T56 l1 x10_1).f2))).toNat - ((rd_T56 l1 x10_1).f1).toNat) from (by rw [List.length_drop, List.length_take]; have h_ : ((wrap64 (((rd_T56 l1 x10_1).f1) + ((rd_T56 l1 x10_1).f2))) : Int) ≤ (l0.length : Int) := of_decide_eq_true (by first | (with_reducible assumption) | assumption); omega)); omega); intro v133 w15 ho hb hg hat; rw [← Ny132.out] at ho; have n0_ := Aside0.mk (blk_grown (g := gb130) (o := .cells #[.bool true, .int .i64 ((rd_T56 l1 x10_1).f1), .int .i64 ((rd_T56 l1 x10_1).f2), .slice A129_3 ((rd_T56 l1 x10_1).f3).length c129_3, .int .i64 ((rd_T56 l1 x10_1).f4)] 56 (0, 0)) (by (with_reducible repeat (first | refine blk_drewN ?_ _ | refine blk_drew ?_ | refine blk_alloc ?_ _)); refine blk_put (cs := #[.bool true, .int .i64 ((rd_T56 l1 x10_1).f1), .int .i64 ((rd_T56 l1 x10_1).f2), .slice A129_3 ((rd_T56 l1 x10_1).f3).length c129_3, .int .i64 0]) ?_ 4 _ rfl; (with_reducible repeat (first | refine blk_drewN ?_ _ | refine blk_drew ?_ | refine blk_alloc ?_ _)); refine blk_put (cs := #[.bool true, .int .i64 ((rd_T56 l1 x10_1).f1), .int .i64 ((rd_T56 l1 x10_1).f2), .slice none 0 0, .int .i64 0]) ?_ 3 _ rfl; (with_reducible repeat (first | refine blk_drewN ?_ _ | refine blk_drew ?_ | refine blk_alloc ?_ _)); refine blk_put (cs := #[.bool true, .int .i64 ((rd_T56 l1 x10_1).f1), .int .i64 0, .slice none 0 0, .int .i64 0]) ?_ 2 _ rfl; (with_reducible repeat (first | refine blk_drewN ?_ _ | refine blk_drew ?_ | refine blk_alloc ?_ _)); refine blk_put (cs := #[.bool true, .int .i64 0, .int .i64 0, .slice none 0 0, .int .i64 0]) ?_ 1 _ rfl; (with_reducible repeat (first | refine blk_drewN ?_ _ | refine blk_drew ?_ | refine blk_alloc ?_ _)); refine blk_put (cs := #[.bool false, .int .i64 0, .int .i64 0, .slice none 0 0, .int .i64 0]) ?_ 0 _ rfl; (with_reducible repeat (first | refine blk_drewN ?_ _ | refine blk_drew ?_ | refine blk_alloc ?_ _)); exact BK130.out) hg (Kd.R_ne HO_5.out BK130.out (by decide))); have n1_ := Aside0.mk (hb); have n2_ := Aside0.mk (ho); clear BK130; clear HB; clear HO_5; have BK130 := n0_; have HB := n1_; have HO134 := n2_; clear n0_ n1_ n2_; clear ho hb hg hat))
                      go_roundg k1
                      case measure => have := HK1.out; omega
                      case rel => exact ⟨(y132), (wrap64 (x10_1 + 1)), (by first | rfl | (simp; done) | (simp [*]; done)), H', ⟨by have := HK1.out; omega⟩, ⟨by (with_reducible repeat (first | apply Kd.R_alloc | apply Kd.R_drewN | apply Kd.R_drew)); exact HO134.out⟩, ⟨by repeat (first | (with_reducible first | exact HB.out | apply below_alloc | apply pw_below_drewN | apply below_drew1 | refine below_set ?_ GE130.out) | exact HB.out)⟩⟩
                    · rw [if_neg c11] at H
                      exact absurd H (by simp)
                  · rw [if_neg c10] at H
                    exact absurd H (by simp)
                · rw [if_neg c9] at H
                  exact absurd H (by simp)
              · rw [if_neg c8] at H
                exact absurd H (by simp)
            · replace c7 := Bool.eq_false_iff.mpr c7
              subst c7
              have H1 : (if x5_1.length + ((rd_T56 l1 x10_1).f3).length < 140737488355328 then (spec_Made.l0 k1 l0 (x5_1 ++ ((rd_T56 l1 x10_1).f3)) l1 (l1.length : Int) (wrap64 (x10_1 + 1))) else (none)) = some r := by rw [if_neg (show ¬ (false = true) by decide)] at H; exact H
              clear H
              have H := H1
              clear H1
              by_cases c16 : x5_1.length + ((rd_T56 l1 x10_1).f3).length < 140737488355328
              · rw [if_pos c16] at H
                have LMc16 := Aside0.mk c16
                clear c16
                obtain ⟨y135, hy135⟩ : ∃ y_ : List Int, y_ = (x5_1 ++ ((rd_T56 l1 x10_1).f3)) := ⟨_, rfl⟩
                replace H : (spec_Made.l0 k1 l0 y135 l1 (l1.length : Int) (wrap64 (x10_1 + 1))) = some r := by first | (rw [hy135]; with_reducible exact H) | (have H2_ := (Option.bind_some _ _).symm.trans H; rw [hy135]; with_reducible exact H2_) | (have H2_ := (Option.bind_some _ _).symm.trans H; with_reducible exact H2_) | with_reducible exact H | (rw [hy135]; exact H) | exact H
                have Ny135 := Aside0.mk hy135
                clear hy135
                have H' := Aside0.mk H
                clear H
                have p129 : 0 ≤ (x10_1 : Int) := of_decide_eq_true (by first | (with_reducible assumption) | assumption)
                have q129 : x10_1 < (l1.length : Int) := of_decide_eq_true (by first | (with_reducible assumption) | assumption)
                obtain ⟨ad129, A129_3, c129_3, e129, hx129_0, hx129_1, hx129_2, hx129_3, hx129_4, hl129_3, hi129_3⟩ := at_T56 HR1.out x10_1 p129 q129
                (try rw [← Nbq6.out] at hx129_0)
                cases e129
                replace hx129_0 := (HB.out.cell (World.block_lt_of_cell? w _ hx129_0)).trans hx129_0
                replace hx129_1 := (HB.out.cell (World.block_lt_of_cell? w _ hx129_1)).trans hx129_1
                replace hx129_2 := (HB.out.cell (World.block_lt_of_cell? w _ hx129_2)).trans hx129_2
                replace hx129_3 := (HB.out.cell (World.block_lt_of_cell? w _ hx129_3)).trans hx129_3
                replace hx129_4 := (HB.out.cell (World.block_lt_of_cell? w _ hx129_4)).trans hx129_4
                have HR129_3 := Aside0.mk hi129_3
                have HC129_3 := Aside0.mk hl129_3
                clear hi129_3 hl129_3
                replace p129 := eq_true p129
                replace q129 := eq_true q129
                go_wp2_with (first | ((with_reducible refine gate_dst (N := 7) rfl ?_); refine box_event ?hg (N := 7) ?hd (cs := #[.bool false, .int .i64 0, .int .i64 0, .slice none 0 0, .int .i64 0]) (t := 56) ?hr ?_; (case hd => rfl); (case hg => rfl); (case hr => first | (go_simp; done) | (go_simp; rfl)); intro gb130 hg w17 hbox hb; have n0_ := Aside0.mk (Kd.R_below (by (with_reducible repeat (first | apply Kd.R_alloc | apply Kd.R_drewN | apply Kd.R_drew)); exact HO_5.out) hb); have n1_ := Aside0.mk (below_step (by repeat (first | (with_reducible first | exact HB.out | apply below_alloc | apply pw_below_drewN | apply below_drew1) | exact HB.out)) hb); have n2_ := Aside0.mk (hbox); have n3_ := Aside0.mk ((by rw [hg]; exact (below_size (by repeat (first | (with_reducible first | exact HB.out | apply below_alloc | apply pw_below_drewN | apply below_drew1) | exact HB.out))) : w.heap.size ≤ gb130)); have n4_ := Aside0.mk ((by rw [hg]; exact (below_size (by repeat (first | (with_reducible first | exact HB.out | apply below_alloc | apply pw_below_drewN | apply below_drew1) | exact HB.out))) : w.heap.size ≤ gb130)); clear HO_5; clear HB; have HO_5 := n0_; have HB := n1_; have BK130 := n2_; have GW130 := n3_; have GE130 := n4_; clear n0_ n1_ n2_ n3_ n4_; clear hb hbox hg; have hcz18_0 : w17.cell? ⟨gb130, 0, none⟩ = some (.bool false) := (blk_cell BK130.out 0).trans rfl; have hcz18_1 : w17.cell? ⟨gb130, 1, none⟩ = some (.int .i64 0) := (blk_cell BK130.out 1).trans rfl; have hcz18_2 : w17.cell? ⟨gb130, 2, none⟩ = some (.int .i64 0) := (blk_cell BK130.out 2).trans rfl; have hcz18_3 : w17.cell? ⟨gb130, 3, none⟩ = some (.slice none 0 0) := (blk_cell BK130.out 3).trans rfl; have hcz18_4 : w17.cell? ⟨gb130, 4, none⟩ = some (.int .i64 0) := (blk_cell BK130.out 4).trans rfl; have hfz18_0 := blk_frozen BK130.out 0; have hfz18_1 := blk_frozen BK130.out 1; have hfz18_2 := blk_frozen BK130.out 2; have hfz18_3 := blk_frozen BK130.out 3; have hfz18_4 := blk_frozen BK130.out 4) | ((with_reducible refine gate_builtin (b := .append) (xs := #[.tmp 27, .tmp 29]) rfl ?_); at_builtin; refine Kd.R_append_rows (Kd.int .u8) (w0 := w) w.heap.size rfl (.tmp 27) (.tmp 29) 44 5 (.int .u8 0) 1 rfl Tryd.underlying44 info5 rfl (by decide) (by omega) u5 x5_1 ((rd_T56 l1 x10_1).f3) _ _ _ (fun _ => True) (fun _ => False) rfl rfl ?aO ?aR (fun _ _ h => h) (fun _ h => h.elim) ?aF ?aB ?aS ?aL ?_; (case aR => exact Kd.C_below HR129_3.out (by repeat (first | (with_reducible first | exact HB.out | apply below_alloc | apply pw_below_drewN | apply below_drew1 | refine below_set ?_ GE130.out) | exact HB.out))); (case aB => exact (by repeat (first | (with_reducible first | exact HB.out | apply below_alloc | apply pw_below_drewN | apply below_drew1 | refine below_set ?_ GE130.out) | exact HB.out))); (case aF => exact (fun _ _ => trivial)); (case aO => exact (by (with_reducible repeat (first | apply Kd.R_alloc | apply Kd.R_drewN | apply Kd.R_drew)); exact Kd.R_mono (Kd.R_far (p := ⟨gb130, 4, none⟩) (Kd.R_far (p := ⟨gb130, 3, none⟩) (Kd.R_far (p := ⟨gb130, 2, none⟩) (Kd.R_far (p := ⟨gb130, 1, none⟩) (Kd.R_far (p := ⟨gb130, 0, none⟩) (Kd.R_types HO_5.out BK130.out (by decide)) (fun _ hk => hk.2) (.bool false)) (fun _ hk => hk.2) (.int .i64 ((rd_T56 l1 x10_1).f1))) (fun _ hk => hk.2) (.int .i64 ((rd_T56 l1 x10_1).f2))) (fun _ hk => hk.2) (.slice A129_3 ((rd_T56 l1 x10_1).f3).length c129_3)) (fun _ hk => hk.2) (.int .i64 ((rd_T56 l1 x10_1).f4))) (fun _ hk => trivial))); (case aS => exact (below_size (by repeat (first | (with_reducible first | exact HB.out | apply below_alloc | apply pw_below_drewN | apply below_drew1 | refine below_set ?_ GE130.out) | exact HB.out)))); (case aL => have := LMc16.out; omega); intro v136 w19 ho hb hg hat; rw [← Ny135.out] at ho; have n0_ := Aside0.mk (blk_grown (g := gb130) (o := .cells #[.bool false, .int .i64 ((rd_T56 l1 x10_1).f1), .int .i64 ((rd_T56 l1 x10_1).f2), .slice A129_3 ((rd_T56 l1 x10_1).f3).length c129_3, .int .i64 ((rd_T56 l1 x10_1).f4)] 56 (0, 0)) (by (with_reducible repeat (first | refine blk_drewN ?_ _ | refine blk_drew ?_ | refine blk_alloc ?_ _)); refine blk_put (cs := #[.bool false, .int .i64 ((rd_T56 l1 x10_1).f1), .int .i64 ((rd_T56 l1 x10_1).f2), .slice A129_3 ((rd_T56 l1 x10_1).f3).length c129_3, .int .i64 0]) ?_ 4 _ rfl; (with_reducible repeat (first | refine blk_drewN ?_ _ | refine blk_drew ?_ | refine blk_alloc ?_ _)); refine blk_put (cs := #[.bool false, .int .i64 ((rd_T56 l1 x10_1).f1), .int .i64 ((rd_T56 l1 x10_1).f2), .slice none 0 0, .int .i64 0]) ?_ 3 _ rfl; (with_reducible repeat (first | refine blk_drewN ?_ _ | refine blk_drew ?_ | refine blk_alloc ?_ _)); refine blk_put (cs := #[.bool false, .int .i64 ((rd_T56 l1 x10_1).f1), .int .i64 0, .slice none 0 0, .int .i64 0]) ?_ 2 _ rfl; (with_reducible repeat (first | refine blk_drewN ?_ _ | refine blk_drew ?_ | refine blk_alloc ?_ _)); refine blk_put (cs := #[.bool false, .int .i64 0, .int .i64 0, .slice none 0 0, .int .i64 0]) ?_ 1 _ rfl; (with_reducible repeat (first | refine blk_drewN ?_ _ | refine blk_drew ?_ | refine blk_alloc ?_ _)); refine blk_put (cs := #[.bool false, .int .i64 0, .int .i64 0, .slice none 0 0, .int .i64 0]) ?_ 0 _ rfl; (with_reducible repeat (first | refine blk_drewN ?_ _ | refine blk_drew ?_ | refine blk_alloc ?_ _)); exact BK130.out) hg (Kd.R_ne HO_5.out BK130.out (by decide))); have n1_ := Aside0.mk (hb); have n2_ := Aside0.mk (ho); clear BK130; clear HB; clear HO_5; have BK130 := n0_; have HB := n1_; have HO137 := n2_; clear n0_ n1_ n2_; clear ho hb hg hat))
                go_roundg k1
                case measure => have := HK1.out; omega
                case rel => exact ⟨(y135), (wrap64 (x10_1 + 1)), (by first | rfl | (simp; done) | (simp [*]; done)), H', ⟨by have := HK1.out; omega⟩, ⟨by (with_reducible repeat (first | apply Kd.R_alloc | apply Kd.R_drewN | apply Kd.R_drew)); exact HO137.out⟩, ⟨by repeat (first | (with_reducible first | exact HB.out | apply below_alloc | apply pw_below_drewN | apply below_drew1 | refine below_set ?_ GE130.out) | exact HB.out)⟩⟩
              · rw [if_neg c16] at H
                exact absurd H (by simp)
          · rw [if_neg c5] at H
            exact absurd H (by simp)
        · rw [if_neg c4] at H
          exact absurd H (by simp)
      · rw [if_neg c3] at H
        have c3b0 : decide (x10_1 < (l1.length : Int)) = false := decide_eq_false c3
        clear c3
        obtain rfl := Option.some.inj H
        go_wp2
        go_ret
        exact ⟨_, by first | rfl | (simp [errW_none, errW_some] <;> rfl) | (simp [*, errW_none, errW_some] <;> rfl), by (with_reducible repeat (first | apply Kd.R_alloc | apply Kd.R_drewN | apply Kd.R_drew)); exact HO_5.out, by repeat (first | (with_reducible first | exact HB.out | apply below_alloc | apply pw_below_drewN | apply below_drew1) | exact HB.out)⟩

end Go.Proofs.YtoofbppfbbhliaaDoor.PFnDeltaInsert
