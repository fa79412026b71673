/- The first line of a conversation: the law FnProtoFirstWritten. -/
import Derived.Test.YtfjhgmnmadobjaaDoorFstC
import Derived.Test.YtfjhgmnmadobjaaDoorPktI
namespace Go.Proofs.YtfjhgmnmadobjaaDoor.fst
open Go.RowKit Go.Proofs.YtfjhgmnmadobjaaDoorW.PrintWords Go.Proofs.YtfjhgmnmadobjaaDoorW.PrintLast Go.Proofs.YtfjhgmnmadobjaaDoorW.PrintMore Go.Proofs.YtfjhgmnmadobjaaDoor.PFnProtoFirstWritten Go.Proofs.YtfjhgmnmadobjaaDoor.pkt Go.Proofs.YtfjhgmnmadobjaaDoor.buf Go.Proofs.YtfjhgmnmadobjaaDoor.enc
set_option linter.unusedVariables false
set_option linter.unusedSimpArgs false
set_option maxHeartbeats 2000000
set_option maxRecDepth 100000
theorem bytesOf_range (s : ByteArray) : ∀ x ∈ Go.Proofs.YtfjhgmnmadobjaaDoorW.PrintWords.bytesOf s, 0 ≤ x ∧ x < 256 := by
  intro x hx
  obtain ⟨b, _, rfl⟩ := List.mem_map.1 hx
  have := b.toNat_lt
  omega
theorem same_self (l : List Int) : laws_deltaSame.f l l = some true := by
  unfold laws_deltaSame.f
  simp
theorem first_law (w : World) (c p h : ByteArray) (A : Option Addr) (n cc : Nat) (l : List ByteArray) (hC : Kd.string.C w A l.length l) (hn : l.length = n) (hcc : n ≤ cc) (a1 a2 a3 : Addr) (hE : Errs w a1 a2 a3) :
    Calls Tryd.prog 3 #[.string c, .string p, .string h, .slice A n cc] w fun e w' => e = .returned (.bool true) ∧ Below w.heap.size w w' := by
  have HC := Aside0.mk hC
  have HN := Aside0.mk hn
  have HCC := Aside0.mk hcc
  have HE := Aside0.mk hE
  have hC' : Kd.string.C w A n l := by rw [← hn]; exact hC
  clear hC hE
  by_cases h1 : 2147483647 < c.size
  · have d1 : decide ((2147483647 : Int) < (c.size : Int)) = true := decide_eq_true (by omega)
    have d1n : decide (2147483647 < c.size) = true := decide_eq_true h1
    clear hC' h1 hn
    go_enter Tryd.func3, Tryd.ntmps3
    go_wp2_with fail
    go_ret
    exact ⟨rfl, Below.refl _ _⟩
  have d1 : decide ((2147483647 : Int) < (c.size : Int)) = false := decide_eq_false (by omega)
  have d1n : decide (2147483647 < c.size) = false := decide_eq_false h1
  by_cases h2 : 2147483647 < p.size
  · have d2 : decide ((2147483647 : Int) < (p.size : Int)) = true := decide_eq_true (by omega)
    have d2n : decide (2147483647 < p.size) = true := decide_eq_true h2
    clear hC' h1 h2 hn
    go_enter Tryd.func3, Tryd.ntmps3
    go_wp2_with fail
    go_ret
    exact ⟨rfl, Below.refl _ _⟩
  have d2 : decide ((2147483647 : Int) < (p.size : Int)) = false := decide_eq_false (by omega)
  have d2n : decide (2147483647 < p.size) = false := decide_eq_false h2
  by_cases h3 : 2147483647 < h.size
  · have d3 : decide ((2147483647 : Int) < (h.size : Int)) = true := decide_eq_true (by omega)
    have d3n : decide (2147483647 < h.size) = true := decide_eq_true h3
    clear hC' h1 h2 h3 hn
    go_enter Tryd.func3, Tryd.ntmps3
    go_wp2_with fail
    go_ret
    exact ⟨rfl, Below.refl _ _⟩
  have d3 : decide ((2147483647 : Int) < (h.size : Int)) = false := decide_eq_false (by omega)
  have d3n : decide (2147483647 < h.size) = false := decide_eq_false h3
  obtain ⟨b0, hf0, hq0⟩ := fits_says l
  have HF := Aside0.mk (laws_zzFits16.calls _ A cc l b0 w HC.out (by rw [hn]; exact hcc) hf0)
  rw [hn] at HF
  cases b0 with
  | false =>
    clear hC' h1 h2 h3 hf0 hq0 hn
    go_enter Tryd.func3, Tryd.ntmps3
    go_wp2_with fail
    refine HF.out.mono ?_
    rintro e w1 ⟨rfl, ⟨n1, rfl⟩⟩
    go_wp2_with fail
    go_ret
    exact ⟨rfl, pw_below_drewN (Below.refl _ _) _⟩
  | true =>
    obtain ⟨hl, hle⟩ := hq0 rfl
    obtain ⟨b1, hg1, hq1⟩ := good_says c p h l (by omega) (by omega) (by omega) hl hle
    have HG := Aside0.mk (fun W (hb : Below w.heap.size w W) => laws_protoGood.calls _ c p h A cc l b1 W (Kd.C_below HC.out hb) (by rw [hn]; exact hcc) hg1)
    rw [hn] at HG
    have HW := Aside0.mk (fun W (hb : Below w.heap.size w W) => pktWorks_any W a1 a2 a3 (HE.out.below hb))
    clear hC' h1 h2 h3 hf0 hq0 hl hle hg1 hn
    cases b1 with
    | false =>
      clear hq1
      go_enter Tryd.func3, Tryd.ntmps3
      go_wp2_with fail
      refine HF.out.mono ?_
      rintro e w1 ⟨rfl, ⟨n1, rfl⟩⟩
      have HB1 := Aside0.mk (pw_below_drewN (Below.refl w.heap.size w) n1)
      go_wp2_with fail
      refine (HG.out _ HB1.out).mono ?_
      rintro e w2 ⟨rfl, ⟨n2, rfl⟩⟩
      have HB2 := Aside0.mk (pw_below_drewN (Below.refl w.heap.size w) (n1 + n2))
      go_wp2_with fail
      refine (HW.out _ (by exact HB2.out)).mono ?_
      rintro e w3 ⟨rfl, hb3⟩
      have HB3 := Aside0.mk (below_step HB2.out hb3)
      clear hb3
      go_wp2_with fail
      go_ret
      exact ⟨rfl, HB3.out⟩
    | true =>
      have hok := hq1 rfl
      have HOK := Aside0.mk hok
      clear hq1 hok
      go_enter Tryd.func3, Tryd.ntmps3
      go_wp2_with fail
      refine HF.out.mono ?_
      rintro e w1 ⟨rfl, ⟨n1, rfl⟩⟩
      have HB1 := Aside0.mk (pw_below_drewN (Below.refl w.heap.size w) n1)
      go_wp2_with fail
      refine (HG.out _ HB1.out).mono ?_
      rintro e w2 ⟨rfl, ⟨n2, rfl⟩⟩
      have HB2 := Aside0.mk (pw_below_drewN (Below.refl w.heap.size w) (n1 + n2))
      go_wp2_with fail
      obtain ⟨W, hW⟩ : ∃ W, w.drewN (n1 + n2) = W := ⟨_, rfl⟩
      have HBW := Aside0.mk (show Below w.heap.size w W by rw [← hW]; exact HB2.out)
      rw [hW]
      clear hW
      refine (writeProto_any W c p h A n cc l HOK.out (Kd.C_below HC.out HBW.out) HN.out HCC.out).mono ?_
      rintro e w3 ⟨A3, c3, rfl, hc3, hC3, hb3⟩
      have HB3 := Aside0.mk (below_step HBW.out hb3)
      have HC3 := Aside0.mk hC3
      have HCC3 := Aside0.mk hc3
      clear hb3 hC3 hc3
      go_wp2_with fail
      refine (protoText_any w3 c p h A n cc l HOK.out (Kd.C_below HC.out HB3.out) HN.out HCC.out).mono ?_
      rintro e w4 ⟨A4, c4, rfl, hc4, hC4, hb4⟩
      have HB4 := Aside0.mk (below_step HB3.out hb4)
      have HDS := Aside0.mk (laws_deltaSame.calls A3 c3 _ A4 c4 _ true w4 (Kd.C_below HC3.out hb4) HCC3.out hC4 hc4 (same_self _))
      clear hb4 hC4 hc4
      go_wp2_with fail
      refine HDS.out.mono ?_
      rintro e w5 ⟨rfl, ⟨n5, rfl⟩⟩
      have HB5 := Aside0.mk (pw_below_drewN HB4.out n5)
      clear HDS
      go_wp2_with fail
      refine (HW.out _ (by exact HB5.out)).mono ?_
      rintro e w6 ⟨rfl, hb6⟩
      have HB6 := Aside0.mk (below_step HB5.out hb6)
      clear hb6
      go_wp2_with fail
      go_ret
      exact ⟨rfl, HB6.out⟩
end Go.Proofs.YtfjhgmnmadobjaaDoor.fst
