/- UploadHaves.Encode over names that rise. UploadHaves.Encode over names that rise: the walk. spec.HavesText. impl.WriteHaves. The law FnProtoHaves. -/
import Derived.Test.YtdobblddnfalcaaGreatDoorSvE
import Derived.WalkSpells
import Derived.Laws.Rows
import Derived.Test.YtdobblddnfalcaaGreatDoorPktI
namespace Go.Proofs.YtdobblddnfalcaaGreatDoor.hv
section
open Go.RowKit Go.Lib Go.Proofs.YtdobblddnfalcaaGreatDoorW.PrintWords Go.Proofs.YtdobblddnfalcaaGreatDoorW.PrintLast Go.Proofs.YtdobblddnfalcaaGreatDoorW.PrintMore Go.Proofs.YtdobblddnfalcaaGreatDoor.PFnProtoHaves Go.Proofs.YtdobblddnfalcaaGreatDoor.hash Go.Proofs.YtdobblddnfalcaaGreatDoor.pkt Go.Proofs.YtdobblddnfalcaaGreatDoor.buf Go.Proofs.YtdobblddnfalcaaGreatDoor.enc
set_option linter.unusedVariables false
set_option linter.unusedSimpArgs false
set_option maxHeartbeats 1000000
set_option maxRecDepth 100000
def hline (s : ByteArray) : ByteArray := ((⟨#[104, 97, 118, 101, 32]⟩ : ByteArray) ++ s) ++ (⟨#[10]⟩ : ByteArray)
def havesL (l : List ByteArray) : List Int := l.flatMap fun s => pline (Go.Proofs.YtdobblddnfalcaaGreatDoorW.PrintWords.bytesOf (hline s))
theorem hline_size {s : ByteArray} (h : name40 s = true) : (hline s).size = 46 := by
  unfold hline
  rw [ByteArray.size_append, ByteArray.size_append, (name40_bytes h).1]
  rfl
theorem havesL_snoc (l : List ByteArray) (s : ByteArray) : havesL (l ++ [s]) = havesL l ++ pline (Go.Proofs.YtdobblddnfalcaaGreatDoorW.PrintWords.bytesOf (hline s)) := by
  unfold havesL
  rw [List.flatMap_append]
  simp
theorem havesL_len : ∀ (l : List ByteArray), (∀ s ∈ l, name40 s = true) → (havesL l).length ≤ l.length * 60
  | [], _ => by simp [havesL]
  | a :: r, h => by
    have h1 := havesL_len r (fun s hs => h s (List.mem_cons_of_mem _ hs))
    have h2 := hline_size (h a List.mem_cons_self)
    have h3 : (pline (Go.Proofs.YtdobblddnfalcaaGreatDoorW.PrintWords.bytesOf (hline a))).length ≤ 50 := by
      unfold pline
      split
      · decide
      · rw [List.length_append, hexs_length, Go.Proofs.YtdobblddnfalcaaGreatDoorW.PrintWords.bytesOf_length, h2]
        decide
    unfold havesL at h1 ⊢
    rw [List.flatMap_cons, List.length_append, List.length_cons, Nat.succ_mul]
    omega
/-- Numbers of bytes. -/
def ns (D : List UInt8) : List Int := D.map fun b => (b.toNat : Int)
theorem ns_inj {D E : List UInt8} (h : ns D = ns E) : D = E := by
  have := congrArg Lib.bytesOf h
  unfold ns at this
  rwa [ofNats, ofNats] at this
theorem ns_str (D : List UInt8) : (strOfNums (ns D)).toList = D := by
  rw [ByteArray.toList_eq, strOfNums_data]
  unfold ns
  rw [List.map_map]
  conv => rhs; rw [← List.map_id D]
  refine List.map_congr_left (fun b _ => ?_)
  simp
theorem row_C {W : World} {g : Nat} {D : List UInt8} {t : TypeId} (h : W.heap[g]? = some (.cells (cells D).toArray t (0, 0))) (hl : D.length ≤ 100) : (Kd.int .u8).C W (some ⟨g, 0, none⟩) (ns D).length (ns D) := by
  refine ⟨rfl, by unfold ns; rw [List.length_map]; omega, fun _ => ⟨_, rfl, fun j p hj => ⟨[.int .u8 p], rfl, rfl, fun i u hu => ?_⟩⟩⟩
  have hi : i = 0 ∧ u = .int .u8 p := by
    cases i with
    | zero => exact ⟨rfl, by simpa using hu.symm⟩
    | succ i => simp at hu
  obtain ⟨rfl, rfl⟩ := hi
  have h1 : W.cell? ⟨g, j, none⟩ = ((cells D).toArray)[j]? := blk_cell h j
  have h2 : ((cells D).toArray)[j]? = some (.int .u8 p) := by
    rw [List.getElem?_toArray, cells, List.getElem?_map]
    unfold ns at hj
    rw [List.getElem?_map] at hj
    cases hd : D[j]? with
    | none => rw [hd] at hj; cases hj
    | some y => rw [hd] at hj; cases hj; rfl
  show W.cell? ((⟨g, 0, none⟩ : Addr).add (j * 1 + 0)) = _
  rw [Nat.mul_one, Nat.add_zero]
  have h3 : (⟨g, 0, none⟩ : Addr).add j = ⟨g, j, none⟩ := by unfold Addr.add; split <;> simp_all
  rw [h3, h1, h2]
theorem equal_no {W : World} {g1 g2 : Nat} {D E : List UInt8} {t1 t2 : TypeId} (h1 : W.heap[g1]? = some (.cells (cells D).toArray t1 (0, 0))) (h2 : W.heap[g2]? = some (.cells (cells E).toArray t2 (0, 0))) (l1 : D.length = 20) (l2 : E.length = 20) (hne : D ≠ E) :
    Calls Tryz.prog 75 #[.slice (some ⟨g1, 0, none⟩) 20 20, .slice (some ⟨g2, 0, none⟩) 20 20] W fun e w' => e = .returned (.bool false) ∧ Drawn0 W w' := by
  have n1 : (ns D).length = 20 := by unfold ns; rw [List.length_map]; exact l1
  have n2 : (ns E).length = 20 := by unfold ns; rw [List.length_map]; exact l2
  have := bytes_Equal.calls (some ⟨g1, 0, none⟩) 20 (ns D) (some ⟨g2, 0, none⟩) 20 (ns E) false W (row_C h1 (by omega)) (by omega) (row_C h2 (by omega)) (by omega) (by
    unfold bytes_Equal.f
    rw [ns_str, ns_str]
    congr 1
    exact beq_eq_false_iff_ne.2 hne)
  rw [n1, n2] at this
  exact this
theorem kH_keeps {w w' : World} {base gb : Nat} {v : Value} {l : List ByteArray} (h : kH.R 129 w base (fun _ => True) v l) (hk : Keeps gb w w') (hgb : ∀ cs, w.heap[gb]? ≠ some (.cells cs 129 (0, 0))) : kH.R 129 w' base (fun _ => True) v l :=
  Kd.R_mono (Kd.R_step (Kd.R_bound h) (fun k hk1 _ => by
    obtain ⟨_, _, _, q, hq, cs, hc⟩ := hk1
    have hq' : q = 129 := by simpa [kH] using hq
    subst hq'
    rw [hc]
    exact hk k _ hc (fun e => by subst e; exact hgb cs hc) (fun cs' e => by injection e with _ e _; exact absurd e (by decide)))) (fun _ _ => trivial)
theorem isB_ty {B gb : Nat} {bs : List Value} {w : World} (hI : IsB B gb bs w) : ∀ cs, w.heap[gb]? ≠ some (.cells cs 129 (0, 0)) := by
  intro cs h
  obtain ⟨_, v, lr, h2, _⟩ := hI
  rw [h2] at h
  injection h with h
  injection h with _ h _
  exact absurd h (by decide)
theorem row_keeps {w w' : World} {gb g : Nat} {cs : Array Value} {t : TypeId} (h : w.heap[g]? = some (.cells cs t (0, 0))) (hk : Keeps gb w w') (hne : g ≠ gb) (ht : t ≠ 5) : w'.heap[g]? = some (.cells cs t (0, 0)) :=
  hk g _ h hne (fun cs' e => by injection e with _ e _; exact ht e)
end
section
open Go.RowKit Go.Lib Go.Proofs.YtdobblddnfalcaaGreatDoorW.PrintWords Go.Proofs.YtdobblddnfalcaaGreatDoorW.PrintLast Go.Proofs.YtdobblddnfalcaaGreatDoorW.PrintMore Go.Proofs.YtdobblddnfalcaaGreatDoor.PFnProtoHaves Go.Proofs.YtdobblddnfalcaaGreatDoor.hash Go.Proofs.YtdobblddnfalcaaGreatDoor.pkt Go.Proofs.YtdobblddnfalcaaGreatDoor.buf Go.Proofs.YtdobblddnfalcaaGreatDoor.enc
set_option linter.unusedVariables false
set_option linter.unusedSimpArgs false
set_option maxHeartbeats 1000000
set_option maxRecDepth 100000
theorem info20L {cs : List Value} (h : cs.length = 20) : (Tryz.prog.info? 129).map (·.size) = some cs.length := by
  have hi : (Tryz.prog.info? 129).map (·.size) = some 20 := by kernel_rfl
  rw [hi, h]
theorem str_raw {s : ByteArray} (h : name40 s = true) : (⟨(Hx.encode (raw s)).toArray⟩ : ByteArray) = s := by
  rw [(raw_says h).2.2]
theorem blen_pos {n : Nat} (h : 2 ≤ n) (h2 : n ≤ 1000) : 0 < Lib.bitLen n := by
  rw [Lib.bitLen_half n (by omega) (by omega)]
  omega
theorem blen_most {n : Nat} (h2 : n ≤ 1000) : Lib.bitLen n ≤ 64 := by
  by_cases h : 256 ≤ n
  · rw [Lib.bitLen_shift8 n h (by omega)]
    have := Lib.bitLen_le8 ⟨n / 256, by omega⟩
    simp only at this
    omega
  · have := Lib.bitLen_le8 ⟨n, by omega⟩
    simp only at this
    omega
theorem raw_ne {l : List ByteArray} (h : Rise l) (j : Nat) (hj : j + 1 < l.length) : raw l[j] ≠ raw l[j + 1] := fun e => by
  have h1 := (raw_says (h.names _ (List.getElem_mem (show j < l.length by omega)))).2.2
  have h2 := (raw_says (h.names _ (List.getElem_mem hj))).2.2
  rw [e, h2] at h1
  have h3 := h.rise j hj
  rw [h1] at h3
  exact absurd h3 (List.lt_irrefl _)
theorem raw_zero {l : List ByteArray} (h : Rise l) (j : Nat) (hj : j < l.length) : List.replicate 20 0 ≠ raw l[j] := fun e => by
  have h1 := (raw_says (h.names _ (List.getElem_mem hj))).2.2
  rw [← e] at h1
  exact h.zero _ (List.getElem_mem hj) (h1.symm.trans (by decide +kernel))
theorem kH_same {w w' : World} {base : Nat} {v : Value} {l : List ByteArray} (h : kH.R 129 w base (fun _ => True) v l) (hk : ∀ k, v.ownBlock = some k → w'.heap[k]? = w.heap[k]?) : kH.R 129 w' base (fun _ => True) v l := by
  have h' : kH.R 129 w base (fun k => v.ownBlock = some k) v l := by
    obtain ⟨h0, inner, hown, hr⟩ := h
    exact ⟨fun k hk => hk, inner, hown, hr⟩
  exact Kd.R_mono (Kd.R_move h' hk) (fun _ _ => trivial)
theorem IsB.setRow {B b k : Nat} {bs : List Value} {w : World} {c0 : Array Value} (h : IsB B b bs w) (hk : w.heap[k]? = some (.cells c0 129 (0, 0))) (cs : Array Value) : IsB B b bs (w.setRow k cs) := by
  have hbk := isB_ty h c0
  obtain ⟨h1, v, lr, h2, h3, h4⟩ := h
  refine ⟨h1, v, lr, (setRow_other w k b cs (fun e => by subst e; exact hbk hk)).trans h2, ⟨h3.1, ?_⟩, h4⟩
  rcases h3.2 with h | ⟨g, cap, cur, e1, e2, e3, e4⟩
  · exact .inl h
  · exact .inr ⟨g, cap, cur, e1, e2, (setRow_other w k g cs (fun e => by
      subst e
      rw [hk] at e3
      injection e3 with e3
      injection e3 with _ e3 _
      exact absurd e3 (by decide))).trans e3, e4⟩
theorem row_other {w : World} {k g : Nat} {c0 cs c1 : Array Value} {t t1 : TypeId} (hk : w.heap[k]? = some (.cells c0 t (0, 0))) (hg : w.heap[g]? = some (.cells c1 t1 (0, 0))) (ht : t1 ≠ t) : (w.setRow k cs).heap[g]? = some (.cells c1 t1 (0, 0)) :=
  (setRow_other w k g cs (fun e => by
    subst e
    rw [hk] at hg
    injection hg with hg
    injection hg with _ hg _
    exact ht hg.symm)).trans hg
theorem encode_any (w : World) (B gb gu : Nat) (v : Value) (l : List ByteArray) (hr : Rise l) (hne : 0 < l.length) (hI : IsB B gb (bv []) w) (hB : B ≤ w.heap.size) (hu : w.heap[gu]? = some (.cells #[v] 81 (0, 0))) (hgu : gu ≠ gb) (hR : kH.R 129 w B (fun _ => True) v l) (f : Bool) :
    Calls Tryz.prog 45 #[.pointer (some ⟨gu, 0, none⟩), .iface 87 (.pointer (some ⟨gb, 0, none⟩)), .bool f] w fun e w' => e = .returned .nilIface ∧ IsB B gb (bv (havesL l ++ (if f then fl else []))) w' ∧ Below B w w' := by
  obtain ⟨g, cap, rfl, _, hglt, _⟩ := Kd.R_form hR hne
  have HGLT := Aside0.mk hglt
  clear hglt
  have HRISE := Aside0.mk hr
  have hmost := hr.most
  have HI := Aside0.mk hI
  have HU := Aside0.mk hu
  have HR := Aside0.mk hR
  have HB := Aside0.mk hB
  have HNE := Aside0.mk hne
  have HGU := Aside0.mk hgu
  clear hr hI hu hR hB hne hgu
  go_enter Tryz.func45, Tryz.ntmps45
  go_wp2_with fail
  refine (newEnc_any _ gb).mono ?_
  rintro e w1 ⟨ge, hge, rfl, hE, hb⟩
  have HB1 := Aside0.mk hb
  have HU1 := Aside0.mk (blk_below HU.out hb)
  have HR1 := Aside0.mk (Kd.R_below HR.out hb)
  have HE1 := Aside0.mk hE
  have qv := (blk_cell HU1.out 0).trans (show _ = some (Value.slice (some ⟨g, 0, none⟩) l.length cap) from rfl)
  have HSO := Aside0.mk (hashesSort_any (c := cap) (srt_of (Kd.R_reads' HR1.out).2.2 rfl HRISE.out) hmost (fun W => by
    have := Tryz.bits_Len (l.length : Int) W (by omega) (by omega)
    rwa [Int.toNat_natCast] at this) (fun h => blen_pos h hmost) (blen_most hmost))
  clear hb hE hge HU HR
  go_wp2_with fail
  clear qv
  refine HSO.out.mono ?_
  rintro e w2 ⟨⟨vx, rfl⟩, hb⟩
  have HB2 := Aside0.mk (below_step HB1.out hb)
  have hal := below_alloc (Below.refl w2.heap.size w2) (.cells (cells (List.replicate 20 0)).toArray 129 (0, 0))
  have HU2 := Aside0.mk (blk_below HU1.out hb)
  have HE2 := Aside0.mk (IsEnc.below HE1.out hb)
  have HR2 := Aside0.mk (Kd.R_below HR1.out hb)
  have HI2 := Aside0.mk (IsB.below HI.out HB2.out)
  have HLA := Aside0.mk (blk_new w2 (.cells (cells (List.replicate 20 0)).toArray 129 (0, 0)))
  have HAL := Aside0.mk hal
  have qv := (blk_cell (blk_below HU2.out hal) 0).trans (show _ = some (Value.slice (some ⟨g, 0, none⟩) l.length cap) from rfl)
  have hz : cells (List.replicate 20 0) = [.int .u8 0, .int .u8 0, .int .u8 0, .int .u8 0, .int .u8 0, .int .u8 0, .int .u8 0, .int .u8 0, .int .u8 0, .int .u8 0, .int .u8 0, .int .u8 0, .int .u8 0, .int .u8 0, .int .u8 0, .int .u8 0, .int .u8 0, .int .u8 0, .int .u8 0, .int .u8 0] := rfl
  obtain ⟨g8, hg8⟩ : ∃ g8, w2.heap.size = g8 := ⟨_, rfl⟩
  have HG8 := Aside0.mk hg8
  clear hb hal HSO
  rw [hz] at qv
  clear hz hg8
  go_wp2_with fail
  clear qv
  go_loopg [25] (l.length + 1) (fun kq v25 w' => ∃ (j : Nat) (P : List UInt8), v25 = .int .i64 (j : Int) ∧ j ≤ l.length ∧ Aside0 (kq + j = l.length + 1) ∧ Aside0 (P.length = 20 ∧ ∀ h : j < l.length, P ≠ raw l[j]) ∧ Aside0 (w'.heap[w2.heap.size]? = some (.cells (cells P).toArray 129 (0, 0))) ∧ Aside0 (IsB B gb (bv (havesL (l.take j))) w') ∧ Aside0 (IsEnc w' ge gb) ∧ Aside0 (w'.heap[gu]? = some (.cells #[.slice (some ⟨g, 0, none⟩) l.length cap] 81 (0, 0))) ∧ Aside0 (kH.R 129 w' B (fun _ => True) (.slice (some ⟨g, 0, none⟩) l.length cap) l) ∧ Aside0 (Below B w w'))
  case atStart =>
    have hb3 := below_step HB2.out HAL.out
    exact ⟨0, List.replicate 20 0, rfl, Nat.zero_le _, ⟨by omega⟩, ⟨rfl, fun h => raw_zero HRISE.out 0 h⟩, HLA, ⟨IsB.below HI2.out HAL.out⟩, ⟨IsEnc.below HE2.out HAL.out⟩, ⟨blk_below HU2.out HAL.out⟩, ⟨Kd.R_below HR2.out HAL.out⟩, ⟨hb3.mono HB.out⟩⟩
  case round =>
    obtain ⟨j, P, rfl, hj, HK, HP, HL, HIJ, HEJ, HUJ, HRJ, HBJ⟩ := hrel
    clear HU2 HE2 HR2 HI2 HLA HAL
    cases gk with
    | zero => exact absurd HK.out (by omega)
    | succ k1 =>
      obtain ⟨wo, hwo⟩ : ∃ wo : World, wo = wr := ⟨_, rfl⟩
      subst hwo
      by_cases hlt : j < l.length
      · have c0 : decide ((j : Int) < (l.length : Int)) = true := decide_eq_true (by omega)
        have c1 : decide (j < l.length) = true := decide_eq_true hlt
        have p1 : (0 : Int) ≤ (j : Int) := by omega
        have p2 : (j : Int) < (l.length : Int) := by omega
        have w1' : wrap64 ((j : Int) + 1) = (j : Int) + 1 := by unfold wrap64; omega
        obtain ⟨ad, cs, e, hcl, hK, hcc⟩ := Kd.C_get (Kd.R_reads' HRJ.out).2.2 ByteArray.empty (j : Int) p1 p2
        injection e with e
        subst e
        have HNX := Aside0.mk (show ∀ h : j + 1 < l.length, raw l[j] ≠ raw l[j + 1] from fun h => raw_ne HRISE.out j h)
        have hP := HP.out.2 hlt
        have HPL := Aside0.mk HP.out.1
        obtain ⟨s, hs⟩ : ∃ s, l[j] = s := ⟨_, rfl⟩
        rw [Int.toNat_natCast, List.getD_eq_getElem?_getD, List.getElem?_eq_getElem hlt, hs] at hK
        rw [hs] at hP HNX
        obtain ⟨hn, rfl⟩ := hK
        have HN := Aside0.mk (show name40 s = true from hn)
        have HPN := Aside0.mk hP
        have HC20 := Aside0.mk (show (cells (raw s)).length = 20 from hcl)
        have HCC := Aside0.mk (show wo.rangeAt g (j * 20) (cells (raw s)) from fun k v hv => by
          have := hcc k v hv
          rw [Int.toNat_natCast] at this
          have h2 : wo.cell? ((⟨g, 0, none⟩ : Addr).add (j * 20 + k)) = some v := this
          simpa [Addr.add_lit] using h2)
        have HST := Aside0.mk (show l.take (j + 1) = l.take j ++ [s] from by rw [List.take_succ_eq_append_getElem hlt, hs])
        have HALL := Aside0.mk (show (cells (raw s)).toArray.all (·.oneCell') = true by
          rw [Array.all_eq_true']
          intro v hv
          exact cells_one _ v (by simpa using hv))
        have HBL := Aside0.mk (show (havesL (l.take j)).length ≤ 100000 by
          have h1 := havesL_len (l.take j) (fun s hs => HRISE.out.names s (List.mem_of_mem_take hs))
          have h2 : (l.take j).length ≤ 1000 := by rw [List.length_take]; omega
          have := Nat.mul_le_mul_right 60 h2
          omega)
        clear hs hcl hcc hn hP HP
        go_wp2_with (first | ((with_reducible show wpList _ _ _ (⟨some 28, _, _, _, _, _⟩ :: _) _ _); go_must (refine wpList_load_mid rfl 129 (.tmp 27) rfl g (j * 20) (by first | rfl | (simp [Act.eval, Act.put, Addr.add]; done)) (cells (raw s)) _ HCC.out Tryz.underlying129 rfl (info20L HC20.out) ?_)) | ((with_reducible show wpList _ _ _ (⟨none, .store _ _ _, _, _, _, _⟩ :: _) _ _); go_must (refine wpList_store_row rfl 129 (.tmp 10) (.tmp 28) rfl wo.heap.size (cells (raw s)).toArray rfl rfl 129 _ (heap_alloc_new wo _) (info20 (raw_says HN.out).2.1) (by have := HC20.out; simp [this]) HALL.out ?_)) | fail)
        generalize hW4 : World.setRow _ _ _ = w4
        have HX4 := Aside0.mk (show w4.heap[wo.heap.size]? = some (.cells (cells (raw s)).toArray 129 (0, 0)) by rw [← hW4]; exact setRow_heap _ wo.heap.size _ _ _ _ (heap_alloc_new wo _))
        have HB4 := Aside0.mk (show Below wo.heap.size wo w4 by rw [← hW4]; exact below_setRow ((Below.refl wo.heap.size wo).alloc (Nat.le_refl _) _) (Nat.le_refl _) _)
        have HL4 := Aside0.mk (blk_below HL.out HB4.out)
        have HEQ := Aside0.mk (fun n => equal_no (W := w4.drewN n) (g1 := w2.heap.size) (g2 := wo.heap.size) HL4.out HX4.out HPL.out (raw_says HN.out).2.1 HPN.out)
        clear hW4
        refine wp_region_quiet_lit (by kernel_rfl) (by kernel_rfl) ?_
        quiet_step (fail)
        quiet_step (fail)
        quiet_step ((go_at_call 75; exact Calls.quiet_of ((HEQ.out _).mono fun _ _ h => ⟨h.1, h.2.out⟩)))
        refine wpQuiet_nil ?_
        intro _ hw'
        obtain ⟨nq, hw''⟩ := hw'
        subst hw''
        have HX5 := Aside0.mk (show (w4.drewN nq).heap[wo.heap.size]? = some (.cells (cells (raw s)).toArray 129 (0, 0)) from HX4.out)
        have HB5 := Aside0.mk (pw_below_drewN HB4.out nq)
        generalize w4.drewN nq = w5 at HX5 HB5 ⊢
        clear HEQ HX4 HL4 HB4
        go_wp2_with (first | ((with_reducible show wpList _ _ _ (⟨some 33, _, _, _, _, _⟩ :: _) _ _); go_must (refine wpList_load_row rfl 129 (.tmp 10) rfl wo.heap.size rfl 129 (cells (raw s)).toArray (0, 0) _ HX5.out Tryz.underlying129 rfl (info20 (raw_says HN.out).2.1) ?_)) | fail)
        have HHS := Aside0.mk (hashString (raw s) w5 (raw_says HN.out).2.1)
        rw [str_raw HN.out] at HHS
        refine HHS.out.mono ?_
        rintro e w6 ⟨rfl, hb⟩
        have HB6 := Aside0.mk (below_step HB5.out hb)
        have hal := below_alloc (Below.refl w6.heap.size w6) (.cells #[.string (hline s)] 9 (0, 0))
        have HB7 := Aside0.mk (below_step HB6.out hal)
        have HES := Aside0.mk (encodeString_any B gb ge w6.heap.size (havesL (l.take j)) (hline s) (w6.alloc (.cells #[.string (hline s)] 9 (0, 0))) (IsB.below HIJ.out HB7.out) (Nat.le_trans HB.out (Nat.le_trans HBJ.out.size HB7.out.size)) (IsEnc.below HEJ.out HB7.out) (by rw [hline_size HN.out]; decide) (by rw [hline_size HN.out]; decide) (by have := HBL.out; omega) ((blk_cell (blk_new w6 _) 0).trans rfl))
        have HX6 := Aside0.mk (blk_below (blk_below HX5.out hb) hal)
        have HUL := Aside0.mk (show hline s = ((⟨#[104, 97, 118, 101, 32]⟩ : ByteArray) ++ s) ++ (⟨#[10]⟩ : ByteArray) from rfl)
        clear hb HHS hal HB5 HX5
        rw [HUL.out] at HES HB7
        have hs40 : s.size = 40 := (name40_bytes HN.out).1
        have hs45 : ((⟨#[104, 97, 118, 101, 32]⟩ : ByteArray) ++ s).size = 45 := by rw [ByteArray.size_append, hs40]; rfl
        go_wp2_with fail
        clear hs40 hs45
        refine HES.out.mono ?_
        rintro e w8 ⟨rfl, hw⟩
        have HX8 := Aside0.mk (row_keeps (blk_below HX6.out (Below.refl _ _)) hw.keeps (fun e => isB_ty (IsB.below HIJ.out HB7.out) _ (by rw [← e]; exact HX6.out)) (by decide))
        have HL7 := Aside0.mk (blk_below HL.out HB7.out)
        have HL8 := Aside0.mk (row_keeps HL7.out hw.keeps (fun e => isB_ty (IsB.below HIJ.out HB7.out) _ (by rw [← e]; exact HL7.out)) (by decide))
        have HU8 := Aside0.mk (row_keeps (blk_below HUJ.out HB7.out) hw.keeps HGU.out (by decide))
        have HE8 := Aside0.mk (IsEnc.keeps (IsEnc.below HEJ.out HB7.out) (IsB.below HIJ.out HB7.out) hw.keeps)
        have HR8 := Aside0.mk (kH_keeps (Kd.R_below HRJ.out HB7.out) hw.keeps (isB_ty (IsB.below HIJ.out HB7.out)))
        have HI8 := Aside0.mk hw.isB
        have HB8 := Aside0.mk (HBJ.out.trans ((HB7.out.mono (Nat.le_trans HB.out HBJ.out.size)).trans hw.below))
        clear hw HES
        go_wp2_with (first | ((with_reducible show wpList _ _ _ (⟨some 42, _, _, _, _, _⟩ :: _) _ _); go_must (refine wpList_load_row rfl 129 (.tmp 10) rfl wo.heap.size rfl 129 (cells (raw s)).toArray (0, 0) _ HX8.out Tryz.underlying129 rfl (info20 (raw_says HN.out).2.1) ?_)) | ((with_reducible show wpList _ _ _ (⟨none, .store _ _ _, _, _, _, _⟩ :: _) _ _); go_must (refine wpList_store_row rfl 129 (.tmp 8) (.tmp 42) rfl w2.heap.size (cells (raw s)).toArray rfl rfl 129 _ HL8.out (info20 (raw_says HN.out).2.1) (by have h2 := HPL.out; have h3 := (raw_says HN.out).2.1; simp [cells, h2, h3]) HALL.out ?_)) | fail)
        go_roundg k1
        case measure => have := HK.out; omega
        case rel =>
          refine ⟨j + 1, raw s, by go_num, hlt, ⟨by have := HK.out; omega⟩, ⟨(raw_says HN.out).2.1, fun h => HNX.out h⟩, ⟨setRow_heap _ w2.heap.size _ _ _ _ HL8.out⟩, ⟨?_⟩, ⟨?_⟩, ⟨row_other HL8.out HU8.out (by decide)⟩, ⟨kH_same HR8.out (fun k hk => setRow_other _ _ _ _ ?_)⟩, ⟨below_setRow HB8.out (Nat.le_trans HB.out HB2.out.size) _⟩⟩
          · rw [HST.out, havesL_snoc]
            exact IsB.setRow HI8.out HL8.out _
          · exact row_other HL8.out HE8.out (by decide)
          · have h1 := HB2.out.size
            have h2 := HGLT.out
            have h3 : g = k := by simpa [Value.ownBlock] using hk
            omega
      · have c0 : decide ((j : Int) < (l.length : Int)) = false := decide_eq_false (by omega)
        have c1 : decide (j < l.length) = false := decide_eq_false hlt
        have HT := Aside0.mk (show l.take j = l from List.take_of_length_le (by omega))
        rw [HT.out] at HIJ
        have qv := (blk_cell HUJ.out 0).trans (show _ = some (Value.slice (some ⟨g, 0, none⟩) l.length cap) from rfl)
        have hn0 := HNE.out
        have c2 : ((l.length : Int) != 0) = true := by rw [bne_iff_ne]; omega
        have c3 : decide ((l.length : Int) = 0) = false := decide_eq_false (by omega)
        have c4 : ((l.length : Int) == 0) = false := by rw [beq_eq_false_iff_ne]; omega
        cases f with
        | false =>
          go_wp2_with fail
          go_ret
          exact ⟨rfl, by simpa using HIJ.out, HBJ.out⟩
        | true =>
          have hlen := havesL_len l HRISE.out.names
          have HFL := Aside0.mk (flush_any wo B gb ge (havesL l) HIJ.out (Nat.le_trans HB.out HBJ.out.size) HEJ.out (by omega))
          clear hlen
          go_wp2_with fail
          refine HFL.out.mono ?_
          rintro e w5 ⟨rfl, hw⟩
          have HW := Aside0.mk hw
          clear hw
          go_wp2_with fail
          go_ret
          exact ⟨rfl, HW.out.isB, HBJ.out.trans HW.out.below⟩
end
section
open Go.RowKit Go.Lib Go.Proofs.YtdobblddnfalcaaGreatDoorW.PrintWords Go.Proofs.YtdobblddnfalcaaGreatDoorW.PrintLast Go.Proofs.YtdobblddnfalcaaGreatDoorW.PrintMore Go.Proofs.YtdobblddnfalcaaGreatDoor.PFnProtoHaves Go.Proofs.YtdobblddnfalcaaGreatDoor.hash Go.Proofs.YtdobblddnfalcaaGreatDoor.pkt Go.Proofs.YtdobblddnfalcaaGreatDoor.buf Go.Proofs.YtdobblddnfalcaaGreatDoor.enc
set_option linter.unusedVariables false
set_option linter.unusedSimpArgs false
set_option maxHeartbeats 1000000
set_option maxRecDepth 100000
theorem info5 : (Tryz.prog.info? 5).map (fun i => (i.zero, i.size, i.bytes)) = some (some (.int .u8 0), 1, 1) := by kernel_rfl
def outL (l : List ByteArray) (f : Bool) : List Int := havesL l ++ (if f then fl else [])
theorem havesText_any (w : World) (A : Option Addr) (cc : Nat) (l : List ByteArray) (hC : Kd.string.C w A l.length l) (hr : Rise l) (f : Bool) :
    Calls Tryz.prog 16 #[.slice A l.length cc, .bool f] w fun e w' => ∃ A' c', e = .returned (.slice A' (outL l f).length c') ∧ (outL l f).length ≤ c' ∧ (Kd.int .u8).C w' A' (outL l f).length (outL l f) ∧ Below w.heap.size w w' := by
  have HC0 := Aside0.mk hC
  have HN0 := Aside0.mk hr.names
  have hmost := hr.most
  clear hC hr
  go_enter Tryz.func16, Tryz.ntmps16
  go_wp2_with fail
  go_loopg [5, 10] (l.length + 1) (fun kq v3 v8 w' => ∃ (j : Nat) (ov : Value), ov = v3 ∧ v8 = .int .i64 (j : Int) ∧ j ≤ l.length ∧ Aside0 (kq + j = l.length + 1) ∧ Aside0 (Kd.R (Kd.int .u8) 5 w' w.heap.size (fun _ => True) ov (havesL (l.take j))) ∧ Aside0 (Below w.heap.size w w'))
  case atStart => exact ⟨0, _, rfl, rfl, Nat.zero_le _, ⟨by omega⟩, ⟨Kd.R_nil _ _ _ _ _⟩, ⟨Below.refl _ _⟩⟩
  case round =>
    obtain ⟨j, ov, hov, rfl, hj, HK, HO, HB⟩ := hrel
    subst hov
    have HBL := Aside0.mk (show (havesL (l.take j)).length ≤ 100000 by
      have h1 := havesL_len (l.take j) (fun s hs => HN0.out s (List.mem_of_mem_take hs))
      have h2 : (l.take j).length ≤ 1000 := by rw [List.length_take]; omega
      have := Nat.mul_le_mul_right 60 h2
      omega)
    cases gk with
    | zero => exact absurd HK.out (by omega)
    | succ k1 =>
      obtain ⟨wo, hwo⟩ : ∃ wo : World, wo = wr := ⟨_, rfl⟩
      subst hwo
      by_cases hlt : j < l.length
      · have c0 : decide ((j : Int) < (l.length : Int)) = true := decide_eq_true (by omega)
        have c1 : decide (j < l.length) = true := decide_eq_true hlt
        have p1 : (0 : Int) ≤ (j : Int) := by omega
        have p2 : (j : Int) < (l.length : Int) := by omega
        have w1 : wrap64 ((j : Int) + 1) = (j : Int) + 1 := by unfold wrap64; omega
        obtain ⟨ad, rfl, hx⟩ := Kd.at_string (Kd.C_below HC0.out HB.out) (j : Int) p1 p2
        obtain ⟨s, hs⟩ : ∃ s, l[j] = s := ⟨_, rfl⟩
        rw [rdOf_list l j hlt, hs, Int.toNat_natCast] at hx
        have HNX := Aside0.mk (HN0.out s (by rw [← hs]; exact List.getElem_mem hlt))
        have HST := Aside0.mk (show havesL (l.take (j + 1)) = havesL (l.take j) ++ pline (Go.Proofs.YtdobblddnfalcaaGreatDoorW.PrintWords.bytesOf (hline s)) by rw [List.take_succ_eq_append_getElem hlt, hs, havesL_snoc])
        have hsz := hline_size HNX.out
        have hcv := print_bytes (P := Tryz.prog) 9 32 5 Tryz.underlying9 Tryz.underlying32 Tryz.underlying5 (hline s) wo
        have hrb := bytes_reads wo 5 (hline s) (by omega)
        have hbb := bytes_below (Below.refl wo.heap.size wo) (Nat.le_refl _) 5 (hline s)
        have hgc := (grownCap_ge wo (hline s).size 0 5)
        have hpl := Go.Proofs.YtdobblddnfalcaaGreatDoorW.PrintWords.bytesOf_length (hline s)
        obtain ⟨p, hp⟩ : ∃ p, Go.Proofs.YtdobblddnfalcaaGreatDoorW.PrintWords.bytesOf (hline s) = p := ⟨_, rfl⟩
        have hrb' : ReadsOf (Value.int .u8) 0 (Lib.bytesWorld wo 5 (hline s)) (some ⟨wo.heap.size, 0, none⟩) (hline s).size p := by rw [← hp]; exact hrb
        clear hrb
        rw [hp] at hpl HST
        rw [← hpl] at hcv hrb' hgc
        obtain ⟨W1, hW1⟩ : ∃ W1, Lib.bytesWorld wo 5 (hline s) = W1 := ⟨_, rfl⟩
        obtain ⟨cq, hcq⟩ : ∃ cq, grownCap wo p.length 0 5 = cq := ⟨_, rfl⟩
        rw [hW1, hcq] at hcv
        rw [hW1] at hrb' hbb
        rw [hcq] at hgc
        have HPB := Aside0.mk (pline_len p (by omega))
        have HPL := Aside0.mk (show p.length ≤ 60 by omega)
        have HLN := Aside0.mk (line_any W1 (some ⟨wo.heap.size, 0, none⟩) cq p (Kd.C_of_reads (h1 := fun _ => rfl) hrb') hgc (by omega))
        have HBW := Aside0.mk hbb
        unfold hline at hcv
        clear hs hp hpl hsz hrb' hbb hgc hW1 hcq
        have hs40 : s.size = 40 := (name40_bytes HNX.out).1
        have hs45 : ((⟨#[104, 97, 118, 101, 32]⟩ : ByteArray) ++ s).size = 45 := by rw [ByteArray.size_append, hs40]; rfl
        go_wp2_with fail
        clear hs40 hs45
        refine HLN.out.mono ?_
        rintro e w2 ⟨A4, c4, rfl, hc4, hC4, hb⟩
        have HO2 := Aside0.mk (Kd.R_below HO.out (below_step HBW.out hb))
        have HB2 := Aside0.mk (below_step HB.out (below_step HBW.out hb))
        have HC4 := Aside0.mk hC4
        clear HO HB hC4 hb HLN
        go_wp2_with (first | ((with_reducible refine gate_builtin (b := .append) (xs := #[.tmp 14, .tmp 19]) rfl ?_); at_builtin; go_must (refine Kd.R_append_row (Value.int .u8) 0 (w0 := w) w.heap.size rfl (.tmp 14) (.tmp 19) 32 5 (.int .u8 0) 1 rfl Tryz.underlying32 info5 rfl (by decide) ov _ (pline p) A4 (pline p).length c4 (fun _ => True) rfl rfl (fun _ _ => trivial) HO2.out HC4.out HB2.out HB2.out.size (by have := HBL.out; have := HPB.out; have := HPL.out; omega) ?_); intro v4 w4 hR4 hB4 _ _; go_must (have HR4 := Aside0.mk hR4; have HB4 := Aside0.mk hB4; clear hR4 hB4)) | fail)
        go_roundg k1
        case measure => have := HK.out; omega
        case rel => exact ⟨j + 1, _, rfl, by go_num, by omega, ⟨by have := HK.out; omega⟩, ⟨by rw [HST.out]; exact HR4.out⟩, HB4⟩
      · have c0 : decide ((j : Int) < (l.length : Int)) = false := decide_eq_false (by omega)
        have c1 : decide (j < l.length) = false := decide_eq_false hlt
        have hT : l.take j = l := List.take_of_length_le (by omega)
        rw [hT] at HO HBL
        cases f with
        | false =>
          have hR5 : Kd.R (Kd.int .u8) 5 wo w.heap.size (fun _ => True) ov (outL l false) := by unfold outL; simpa using HO.out
          obtain ⟨A4, c4, e4, hl4, hC4⟩ := Kd.R_reads hR5
          subst e4
          have Q := Aside0.mk (And.intro hl4 hC4)
          clear hR5 hl4 hC4
          go_wp2_with fail
          go_ret
          exact ⟨A4, c4, rfl, Q.out.1, Q.out.2, HB.out⟩
        | true =>
          have HOW := Aside0.mk (Kd.own_of_R HO.out)
          go_wp2_with (first | ((with_reducible refine gate_builtin (b := .append) (xs := #[.tmp 23, .const (.string ⟨#[48, 48, 48, 48]⟩)]) rfl ?_); at_builtin; go_must (refine print_append_str (w0 := w) w.heap.size rfl (.tmp 23) (.const (.string ⟨#[48, 48, 48, 48]⟩)) 32 9 5 rfl Tryz.underlying32 Tryz.underlying9 info5 ov _ ⟨#[48, 48, 48, 48]⟩ rfl rfl HOW.out HB.out HB.out.size (by have := HBL.out; show _ + 4 ≤ _; omega) ?_); intro v4 w4 hR4 hB4 _; go_must (have HR4 := Aside0.mk hR4; have HB4 := Aside0.mk hB4; clear hR4 hB4)) | fail)
          have hR5 : Kd.R (Kd.int .u8) 5 w4 w.heap.size (fun _ => True) v4 (outL l true) := Kd.R_of_own HR4.out (fun _ _ => trivial)
          obtain ⟨A4, c4, e4, hl4, hC4⟩ := Kd.R_reads hR5
          subst e4
          go_wp2_with fail
          go_ret
          exact ⟨A4, c4, rfl, hl4, hC4, HB4.out⟩
end
section
open Go.RowKit Go.Lib Go.Proofs.YtdobblddnfalcaaGreatDoorW.PrintWords Go.Proofs.YtdobblddnfalcaaGreatDoorW.PrintLast Go.Proofs.YtdobblddnfalcaaGreatDoorW.PrintMore Go.Proofs.YtdobblddnfalcaaGreatDoor.PFnProtoHaves Go.Proofs.YtdobblddnfalcaaGreatDoor.hash Go.Proofs.YtdobblddnfalcaaGreatDoor.pkt Go.Proofs.YtdobblddnfalcaaGreatDoor.buf Go.Proofs.YtdobblddnfalcaaGreatDoor.enc
set_option linter.unusedVariables false
set_option linter.unusedSimpArgs false
set_option maxHeartbeats 1000000
set_option maxRecDepth 100000
theorem writeHaves_any (w : World) (A : Option Addr) (cc : Nat) (l : List ByteArray) (hC : Kd.string.C w A l.length l) (hr : Rise l) (hne : 0 < l.length) (ev : Value) (hE : w.cell? ⟨11, 0, none⟩ = some ev) (f : Bool) :
    Calls Tryz.prog 14 #[.slice A l.length cc, .bool f] w fun e w' => ∃ A' c', e = .returned (.tuple #[.slice A' (outL l f).length c', .bool true]) ∧ (outL l f).length ≤ c' ∧ (Kd.int .u8).C w' A' (outL l f).length (outL l f) ∧ Below w.heap.size w w' := by
  have HH := Aside0.mk (hashesOf_any w A cc l hC hr.most hr.names ev hE)
  have HRI := Aside0.mk hr
  have HNE := Aside0.mk hne
  obtain ⟨PL, hPL⟩ : ∃ PL, outL l f = PL := ⟨_, rfl⟩
  have HQ := Aside0.mk (show havesL l ++ (if f then fl else []) = PL from hPL)
  rw [hPL]
  clear hPL
  clear hC hr hne hE
  go_enter Tryz.func14, Tryz.ntmps14
  go_wp2_with fail
  refine HH.out.mono ?_
  rintro e w1 ⟨v, rfl, hR, hb⟩
  obtain ⟨A1, c1, hv⟩ := Kd.R_slice hR
  subst hv
  have HR1 := Aside0.mk hR
  have HB1 := Aside0.mk hb
  obtain ⟨w2, hw2⟩ : ∃ w2, w1.alloc (.cells #[.slice A1 l.length c1] 81 (0, 0)) = w2 := ⟨_, rfl⟩
  obtain ⟨w3, hw3⟩ : ∃ w3, w2.alloc (.cells #[.slice none 0 0, .int .i64 0, .int .i8 0] 85 (0, 0)) = w3 := ⟨_, rfl⟩
  have hb2 : Below w1.heap.size w1 w2 := by rw [← hw2]; exact below_alloc (Below.refl _ _) _
  have hb3 : Below w2.heap.size w2 w3 := by rw [← hw3]; exact below_alloc (Below.refl _ _) _
  have hu2 : w2.heap[w1.heap.size]? = some (.cells #[.slice A1 l.length c1] 81 (0, 0)) := by rw [← hw2]; exact blk_new _ _
  have hk3 : w3.heap[w2.heap.size]? = some (.cells #[.slice none 0 0, .int .i64 0, .int .i8 0] 85 (0, 0)) := by rw [← hw3]; exact blk_new _ _
  have hlt : w1.heap.size < w2.heap.size := blk_lt hu2
  have hI3 : IsB w.heap.size w2.heap.size (bv []) w3 := ⟨Nat.le_trans hb.size hb2.size, .slice none 0 0, 0, hk3, World.ownsRow_nil _ _ _ _, by simp [Value.ownBlock]⟩
  have HENC := Aside0.mk (encode_any w3 w.heap.size w2.heap.size w1.heap.size (.slice A1 l.length c1) l HRI.out HNE.out hI3 (Nat.le_trans hb.size (Nat.le_trans hb2.size hb3.size)) (blk_below hu2 hb3) (by omega) (Kd.R_below (Kd.R_below hR hb2) hb3) f)
  have HB3 := Aside0.mk (below_step hb (below_step hb2 hb3))
  clear hR hb hb2 hb3 hu2 hk3 hlt hI3 HH
  rw [HQ.out] at HENC
  go_wp2_with fail
  refine HENC.out.mono ?_
  rintro e w6 ⟨rfl, hi, hb⟩
  have HI6 := Aside0.mk hi
  have HB6 := Aside0.mk (HB3.out.trans hb)
  clear hi hb HENC hw2 hw3
  go_wp2_with fail
  go_region_with (go_at_call 46; refine (Tryz.Buffer_Bytes w.heap.size w2.heap.size (bv PL) _ (by exact HI6.out)).mono ?_; rintro e w7 ⟨v, rfl, hown, ⟨n7, rfl⟩⟩; rw [bv_length] at hown; obtain ⟨A7, c7, e7, hc7, hC7⟩ := Kd.R_reads (Kd.R_of_own (enc := Value.int .u8) (h1 := fun _ => rfl) (xs := PL) (ok := fun _ => True) hown (fun _ _ => trivial)); subst e7; have Q7 := Aside0.mk (And.intro hc7 hC7); clear hown hc7 hC7)
  all_goals go_wp2_with fail
  all_goals go_ret2
  all_goals exact ⟨A7, c7, rfl, Q7.out.1, Q7.out.2, by first | exact pw_below_drewN HB6.out _ | exact pw_below_drewN (below_drew HB6.out) _ | exact below_drew (pw_below_drewN HB6.out _) | exact ⟨HB6.out.os, HB6.out.tape, HB6.out.output, HB6.out.size, HB6.out.block⟩⟩
end
section
open Go.RowKit Go.Lib Go.Proofs.YtdobblddnfalcaaGreatDoorW.PrintWords Go.Proofs.YtdobblddnfalcaaGreatDoorW.PrintLast Go.Proofs.YtdobblddnfalcaaGreatDoorW.PrintMore Go.Proofs.YtdobblddnfalcaaGreatDoor.PFnProtoHaves Go.Proofs.YtdobblddnfalcaaGreatDoor.hash Go.Proofs.YtdobblddnfalcaaGreatDoor.pkt Go.Proofs.YtdobblddnfalcaaGreatDoor.buf Go.Proofs.YtdobblddnfalcaaGreatDoor.enc
set_option linter.unusedVariables false
set_option linter.unusedSimpArgs false
set_option maxHeartbeats 1000000
set_option maxRecDepth 100000
theorem fits16_l0 (l : List ByteArray) (hl : l.length ≤ 2147483647) : ∀ (d i : Nat), i + d = l.length → (∀ j (hj : j < l.length), j < i → l[j].size ≤ 2147483647) → Says (fun k => laws_zzFits16.l0 k l (l.length : Int) (i : Int)) (∀ v ∈ l, v.size ≤ 2147483647) := by
  intro d
  induction d with
  | zero =>
    intro i hi hq
    refine Says.step (Says.const true (fun _ v hv => ?_)) (fun k => by rw [laws_zzFits16.l0, if_neg (by omega)])
    obtain ⟨j, hj, rfl⟩ := List.getElem_of_mem hv
    exact hq j hj (by omega)
  | succ d ih =>
    intro i hi hq
    have hlt : i < l.length := by omega
    refine Says.step (f := fun k => if (l[i].size : Int) > 2147483647 then some false else laws_zzFits16.l0 k l (l.length : Int) ((i + 1 : Nat) : Int)) ?_ (fun k => by
      rw [laws_zzFits16.l0, if_pos (by omega), if_pos (by omega), if_pos (by omega), rdOf_list l i hlt, show wrap64 ((i : Int) + 1) = ((i + 1 : Nat) : Int) by unfold wrap64; omega])
    refine Says.ite (fun _ => Says.no) (fun h => ih (i + 1) (by omega) (fun j hj hji => ?_))
    by_cases e : j = i
    · subst e; omega
    · exact hq j hj (by omega)
theorem fits_says (l : List ByteArray) : Says (fun k => laws_zzFits16.f k l) (l.length ≤ 2147483647 ∧ ∀ v ∈ l, v.size ≤ 2147483647) := by
  unfold laws_zzFits16.f
  refine Says.ite (fun _ => Says.no) (fun h => ?_)
  exact (fits16_l0 l (by omega) l.length 0 (by omega) (fun j hj h => by omega)).mono (fun h2 => ⟨by omega, h2⟩)
theorem same_self (l : List Int) : laws_deltaSame.f l l = some true := by
  unfold laws_deltaSame.f
  simp
theorem haves_law (w : World) (A : Option Addr) (n cc : Nat) (l : List ByteArray) (hC : Kd.string.C w A l.length l) (hn : l.length = n) (hcc : n ≤ cc) (f : Bool) (a1 a2 a3 : Addr) (hE : Errs w a1 a2 a3) (ev : Value) (hEV : w.cell? ⟨11, 0, none⟩ = some ev) :
    Calls Tryz.prog 4 #[.slice A n cc, .bool f] w fun e w' => e = .returned (.bool true) ∧ Below w.heap.size w w' := by
  subst hn
  have HC := Aside0.mk hC
  have HCC := Aside0.mk hcc
  have HEV := Aside0.mk hEV
  have HW := Aside0.mk (fun W (hb : Below w.heap.size w W) => pktWorks_any W a1 a2 a3 (hE.below hb))
  obtain ⟨F0, b0, hf0, hq0⟩ := fits_says l
  have HF := Aside0.mk (laws_zzFits16.calls F0 A cc l b0 w hC hcc (hf0 F0 (Nat.le_refl _)))
  have HQ0 := Aside0.mk hq0
  clear hC hE hf0 hq0 hcc hEV
  go_enter Tryz.func4, Tryz.ntmps4
  go_wp2_with fail
  refine HF.out.mono ?_
  rintro e w1 ⟨rfl, hd⟩
  have HB1 := Aside0.mk hd.below
  clear hd HF
  cases b0 with
  | false =>
    go_wp2_with fail
    go_ret
    exact ⟨rfl, HB1.out⟩
  | true =>
    obtain ⟨hl, hsm⟩ := HQ0.out (by trivial)
    obtain ⟨F2, b2, hf2, hq2⟩ := hashes_says l hl hsm
    have HG := Aside0.mk (fun W (hb : Below w.heap.size w W) => spec_GoodHashes.calls F2 A cc l b2 W (Kd.C_below HC.out hb) HCC.out (hf2 F2 (Nat.le_refl _)))
    have HQ2 := Aside0.mk hq2
    clear hl hsm hf2 hq2 HQ0
    by_cases hne : 0 < l.length
    · have HNE := Aside0.mk hne
      have c0 : decide ((l.length : Int) = 0) = false := decide_eq_false (by omega)
      have c1 : ((l.length : Int) == 0) = false := by rw [beq_eq_false_iff_ne]; omega
      go_wp2_with fail
      refine (HG.out _ HB1.out).mono ?_
      rintro e w2 ⟨rfl, hd⟩
      have HB2 := Aside0.mk (below_step HB1.out hd.below)
      clear hd HG
      cases b2 with
      | false =>
        go_wp2_with fail
        refine (HW.out _ HB2.out).mono ?_
        rintro e w3 ⟨rfl, hb⟩
        have HB3 := Aside0.mk (below_step HB2.out hb)
        clear hb
        go_wp2_with fail
        go_ret
        exact ⟨rfl, HB3.out⟩
      | true =>
        have HR := Aside0.mk (HQ2.out (by trivial))
        clear HQ2
        have HWR := Aside0.mk (writeHaves_any w2 A cc l (Kd.C_below HC.out HB2.out) HR.out HNE.out ev ((HB2.out.cell (World.block_lt_of_cell? w _ HEV.out)).trans HEV.out) f)
        go_wp2_with fail
        refine HWR.out.mono ?_
        rintro e w3 ⟨A3, c3, rfl, hc3, hC3, hb⟩
        have HB3 := Aside0.mk (below_step HB2.out hb)
        have HT := Aside0.mk (havesText_any w3 A cc l (Kd.C_below HC.out HB3.out) HR.out f)
        have HC3 := Aside0.mk hC3
        have HCC3 := Aside0.mk hc3
        obtain ⟨PL, hPL⟩ : ∃ PL, outL l f = PL := ⟨_, rfl⟩
        rw [hPL] at HT HC3 HCC3
        clear hb hc3 hC3 HWR
        rw [hPL]
        clear hPL
        go_wp2_with fail
        refine HT.out.mono ?_
        rintro e w4 ⟨A4, c4, rfl, hc4, hC4, hb⟩
        have HB4 := Aside0.mk (below_step HB3.out hb)
        have HDS := Aside0.mk (laws_deltaSame.calls A3 c3 PL A4 c4 PL true w4 (Kd.C_below HC3.out hb) HCC3.out hC4 hc4 (same_self PL))
        clear hb hC4 hc4 HT
        go_wp2_with fail
        refine HDS.out.mono ?_
        rintro e w5 ⟨rfl, hd⟩
        have HB5 := Aside0.mk (below_step HB4.out hd.below)
        clear hd HDS
        go_wp2_with fail
        refine (HW.out _ HB5.out).mono ?_
        rintro e w6 ⟨rfl, hb⟩
        have HB6 := Aside0.mk (below_step HB5.out hb)
        clear hb
        go_wp2_with fail
        go_ret
        exact ⟨rfl, HB6.out⟩
    · have c0 : decide ((l.length : Int) = 0) = true := decide_eq_true (by omega)
      have c1 : ((l.length : Int) == 0) = true := by rw [beq_iff_eq]; omega
      have c2 : (l.length == 0) = true := by rw [beq_iff_eq]; omega
      clear hne
      go_wp2_with fail
      refine (HG.out _ HB1.out).mono ?_
      rintro e w2 ⟨rfl, hd⟩
      have HB2 := Aside0.mk (below_step HB1.out hd.below)
      clear hd HG HQ2
      cases b2 <;>
      · go_wp2_with fail
        refine (HW.out _ HB2.out).mono ?_
        rintro e w3 ⟨rfl, hb⟩
        have HB3 := Aside0.mk (below_step HB2.out hb)
        clear hb
        go_wp2_with fail
        go_ret
        exact ⟨rfl, HB3.out⟩
end
end Go.Proofs.YtdobblddnfalcaaGreatDoor.hv
