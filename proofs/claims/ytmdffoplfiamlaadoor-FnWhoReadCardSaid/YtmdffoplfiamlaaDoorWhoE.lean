/- Signatures: the time and the zone are read. -/
import Derived.Test.YtmdffoplfiamlaaDoorWhoB
import Derived.Test.YtmdffoplfiamlaaDoorWhoC
import Derived.Test.YtmdffoplfiamlaaDoorShelf
import Derived.Lib.IndexLaws
import Derived.Lib.AtoiErrMem
import Derived.Outline
namespace Go.Proofs.YtmdffoplfiamlaaDoor.who
open Go.Proofs.YtmdffoplfiamlaaDoor.cuts Go.RowKit Go.Lib Go.Proofs.YtmdffoplfiamlaaDoorW.PrintWords Go.Proofs.YtmdffoplfiamlaaDoorW.PrintLast Go.Proofs.YtmdffoplfiamlaaDoorW.PrintMore Go.Proofs.YtmdffoplfiamlaaDoor.PFnWhoRead
set_option linter.unusedVariables false
set_option linter.unusedSimpArgs false
set_option maxHeartbeats 2000000
set_option maxRecDepth 100000
/-- Bytes as numbers. -/
def bn (l : List UInt8) : List Int := l.map fun b => (b.toNat : Int)
theorem bn_length (l : List UInt8) : (bn l).length = l.length := List.length_map _
theorem bn_append (a b : List UInt8) : bn (a ++ b) = bn a ++ bn b := List.map_append
theorem bn_not {l : List UInt8} {v : UInt8} (h : v ∉ l) : (v.toNat : Int) ∉ bn l := fun hm => by
  obtain ⟨x, hx, e⟩ := List.mem_map.1 hm
  have : x.toNat = v.toNat := by omega
  exact h (UInt8.toNat_inj.1 this ▸ hx)
theorem str_bn (l : List UInt8) : strOfNums (bn l) = txt l := by
  unfold strOfNums bn txt
  rw [List.map_map]
  congr 2
  conv => rhs; rw [← List.map_id l]
  exact List.map_congr_left fun b _ => by show UInt8.ofNat ((b.toNat : Int)).toNat = b; rw [Int.toNat_natCast]; exact UInt8.ofNat_toNat
theorem bytesOf_bn (l : List UInt8) : Lib.bytesOf (bn l) = l := by
  unfold Lib.bytesOf bn
  rw [List.map_map]
  conv => rhs; rw [← List.map_id l]
  exact List.map_congr_left fun b _ => by show UInt8.ofNat ((b.toNat : Int)).toNat = b; rw [Int.toNat_natCast]; exact UInt8.ofNat_toNat
theorem index_at (v : UInt8) (q : List UInt8) : ∀ p : List UInt8, v ∉ p → Lib.indexByte (p ++ v :: q) v = (p.length : Int)
  | [], _ => by simp [Lib.indexByte]
  | x :: p, h => by
    have ih := index_at v q p (fun hm => h (.tail _ hm))
    have hx : (x == v) = false := by rw [beq_eq_false_iff_ne]; exact fun e => h (e ▸ .head _)
    show (if (x == v) = true then (0 : Int) else if (Lib.indexByte (p ++ v :: q) v == -1) = true then -1 else Lib.indexByte (p ++ v :: q) v + 1) = _
    rw [hx, ih, if_neg (by simp), if_neg (by rw [beq_iff_eq]; omega), List.length_cons]
    rfl
/-- The first place of a byte. -/
theorem index_any {p q : List UInt8} {v : UInt8} (hv : v ∉ p) {n c k : Nat} (hn : (p ++ v :: q).length = n) (hk : p.length = k) {A : Option Addr} {w : World} (hC : (Kd.int .u8).C w A n (bn (p ++ v :: q))) :
    Calls Tryd.prog 76 #[.slice A n c, .int .u8 (v.toNat : Int)] w fun e w' => e = .returned (.int .i64 (k : Int)) ∧ w = w' := by
  have h0 : 0 < n := by rw [← hn, List.length_append, List.length_cons]; omega
  obtain ⟨ad, hA, _⟩ := Kd.at_int hC 0 (by omega) (by omega)
  subst hA
  refine (Tryd.bytes_IndexByte_at ad n c (bn (p ++ v :: q)) (v.toNat : Int) w (by rw [bn_length, hn]) (fun i hi => ?_)).mono ?_
  · obtain ⟨ad2, e2, h⟩ := Kd.at_int hC (i : Int) (by omega) (by omega)
    cases e2
    rw [Int.toNat_natCast] at h
    rw [h]
    unfold rd
    rw [Int.toNat_natCast]
  · rintro e w' ⟨rfl, rfl⟩
    refine ⟨?_, rfl⟩
    rw [bytesOf_bn, Int.toNat_natCast, show v.toNat.toUInt8 = v from UInt8.ofNat_toNat, index_at v q p hv, hk]
/-- strconv.ParseInt at a numeral. -/
theorem parse_any (s : ByteArray) (l : List UInt8) (v : Int) (hs : s.data.toList = l) (hl : l.length ≤ 100) (hv : parseIntB 64 l = .ok v) (w : World) :
    Calls Tryd.prog 77 #[.string s, .int .i64 10, .int .i64 64] w fun e w' => e = .returned (.tuple #[.int .i64 v, .nilIface]) ∧ Below w.heap.size w w' := by
  subst hs
  refine (Tryd.strconv_ParseInt_10_at64_ok s (by rw [Array.length_toList] at hl; show s.data.size ≤ _; omega) v hv w).mono ?_
  rintro e w' ⟨rfl, h⟩
  refine ⟨rfl, ?_⟩
  rcases h with rfl | ⟨t, rfl⟩
  · exact Below.refl _ _
  · exact Lib.bytesWorld_below w _ t
theorem unix_any (t : Nat) (ht : t < 1099511627776) (w : World) : Calls Tryd.prog 78 #[.int .i64 (t : Int), .int .i64 0] w fun e w' => e = .returned (.agg #[.int .i64 ((t : Int) + 62135596800), .int .i64 0, .int .i64 0]) ∧ Below w.heap.size w w' := by
  refine zztime_Unix.calls _ _ _ _ _ w ?_
  unfold zztime_Unix.f
  rw [if_neg (by decide)]
  rw [Int.zero_tdiv, Int.zero_tmod, w64_id (x := 0) (by decide) (by decide), Int.add_zero, w64_id (x := (t : Int)) (by omega) (by omega), w64_id (by omega) (by omega)]
theorem fixedZone_any (s : ByteArray) (x : Int) (w : World) : Calls Tryd.prog 79 #[.string s, .int .i64 x] w fun e w' => e = .returned (.agg #[.int .i64 x]) ∧ Below w.heap.size w w' := zztime_FixedZone.calls s x x w rfl
theorem in_any (a b z x : Int) (w : World) : Calls Tryd.prog 80 #[.agg #[.int .i64 a, .int .i64 b, .int .i64 z], .agg #[.int .i64 x]] w fun e w' => e = .returned (.agg #[.int .i64 a, .int .i64 b, .int .i64 x]) ∧ Below w.heap.size w w' := zztime_Time_In.calls a b z x a b x w rfl
/-- The cells of a signature. -/
def sgn (N E : ByteArray) (s z : Int) : Array Value := #[.string N, .string E, .int .i64 s, .int .i64 0, .int .i64 z]
theorem decodeTime_neg (w : World) (B gs n c : Nat) (N E : ByteArray) (t : Nat) (ds z : List UInt8) (hv mv : Int) (A : Option Addr) (hB : B ≤ gs) (ht : t < 1099511627776) (hds : 32 ∉ ds) (hdl : ds.length ≤ 20) (hpt : parseIntB 64 ds = .ok (t : Int))
    (hz : z.length = 5) (hp1 : parseIntB 64 (z.take 3) = .ok hv) (hp2 : parseIntB 64 (z.drop 3) = .ok mv) (hvs : hv < 0) (hv1 : -99 ≤ hv) (hv2 : hv ≤ 99) (mv1 : 0 ≤ mv) (mv2 : mv ≤ 59) (hn : (ds ++ 32 :: z).length = n) (hC : (Kd.int .u8).C w A n (bn (ds ++ 32 :: z))) (hc : n ≤ c) (hF : ∀ W', KeepBut w W' gs none → (Kd.int .u8).C W' A n (bn (ds ++ 32 :: z)))
    (hG : w.heap[gs]? = some (.cells (sgn N E 0 0) 64 (0, 0))) :
    Calls Tryd.prog 47 #[.pointer (some ⟨gs, 0, none⟩), .slice A n c] w fun e w' => e = .returned (.tuple #[]) ∧ w'.heap[gs]? = some (.cells (sgn N E ((t : Int) + 62135596800) (hv * 3600 - mv * 60)) 64 (0, 0)) ∧ Below B w w' := by
  have hsz := blk_lt hG
  obtain ⟨k, hk⟩ : ∃ k, ds.length = k := ⟨_, rfl⟩
  have hnk : n = k + 6 := by rw [← hn, List.length_append, List.length_cons, hz, hk]
  have HIX := Aside0.mk (index_any (c := c) hds hn hk hC)
  have hl1 : bn (ds ++ 32 :: z) = bn ds ++ bn (32 :: z) := bn_append _ _
  have hl2 : bn (ds ++ 32 :: z) = bn (ds ++ [32]) ++ bn z ++ [] := by rw [List.append_nil, ← bn_append, List.append_assoc]; rfl
  obtain ⟨hcut1, hcC1⟩ := take_C hl1 (n := n) (c := c) (m := k) (by rw [bn_length, hn]) (by rw [bn_length, hk]) (a := (k : Int)) rfl hc A
  obtain ⟨A2, hcut2, hcC2, hcl2⟩ := mid_C hl2 (n := n) (c := c) (m1 := k + 1) (m2 := 5) (k := c - (k + 1)) (by rw [bn_length, hn]) (by rw [bn_length, List.length_append, hk]; rfl) (by rw [bn_length, hz]) rfl (a := (k : Int) + 1) (b := (k : Int) + 1 + 5) (by omega) (by omega) hc A
  have hcv1 := fun (W : World) (h : (Kd.int .u8).C W A k (bn ds)) => (Kd.C_string (P := Tryd.prog) (dst := 9) (c := c) Tryd.underlying26 Tryd.underlying5 Tryd.underlying9 h).trans (by rw [str_bn])
  have hcv2 := fun (W : World) (h : (Kd.int .u8).C W A2 5 (bn z)) => (Kd.C_string (P := Tryd.prog) (dst := 9) (c := c - (k + 1)) Tryd.underlying26 Tryd.underlying5 Tryd.underlying9 h).trans (by rw [str_bn])
  have HP1 := Aside0.mk (parse_any (txt ds) ds t (txt_list ds) (by omega) hpt)
  obtain ⟨sz, hsz5⟩ : ∃ sz, txt z = sz := ⟨_, rfl⟩
  have hs1 : sz.size = 5 := by rw [← hsz5, txt_size, hz]
  obtain ⟨s3, hs3⟩ : ∃ s3, sz.extract 0 3 = s3 := ⟨_, rfl⟩
  obtain ⟨s2, hs2⟩ : ∃ s2, sz.extract 3 sz.size = s2 := ⟨_, rfl⟩
  have HP2 := Aside0.mk (parse_any s3 (z.take 3) hv (by rw [← hs3, ← hsz5, ByteArray.data_extract, Array.toList_extract]; simp [List.extract, txt]) (by rw [List.length_take]; omega) hp1)
  have HP3 := Aside0.mk (parse_any s2 (z.drop 3) mv (by rw [← hs2, ← hsz5, ByteArray.data_extract, Array.toList_extract, txt_size, hz]; simp [List.extract, txt]; rw [List.take_of_length_le (by rw [List.length_drop, hz]; exact Nat.le_refl _)]) (by rw [List.length_drop]; omega) hp2)
  have HU := Aside0.mk (unix_any t ht)
  rw [hsz5] at hcv2
  have HC := Aside0.mk hC
  have HF := Aside0.mk hF
  have HG := Aside0.mk hG
  have HCC1 := Aside0.mk hcC1
  have HCC2 := Aside0.mk hcC2
  have HCV1 := Aside0.mk hcv1
  have HCV2 := Aside0.mk hcv2
  have HS3 := Aside0.mk hs3
  have HS2 := Aside0.mk hs2
  have HS1 := Aside0.mk hs1
  have hk20 : k ≤ 20 := by omega
  have k0 : (0 : Int) ≤ (k : Int) := by omega
  have k1 : (k : Int) ≤ 20 := by omega
  have hne : ((k : Int) == -1) = false := by rw [beq_eq_false_iff_ne]; omega
  have c1 : decide ((n : Int) ≤ (k : Int) + 1) = false := decide_eq_false (by omega)
  have c2 : decide ((n : Int) < (k : Int) + 1 + 5) = false := decide_eq_false (by omega)
  have c3 : decide (n ≤ k + 1) = false := decide_eq_false (by omega)
  have c4 : decide (n < k + 1 + 5) = false := decide_eq_false (by omega)
  have t0 : (0 : Int) ≤ (t : Int) := by omega
  have t1 : (t : Int) < 1099511627776 := by omega
  have cs : decide (hv < 0) = true := decide_eq_true (by omega)
  have HB := Aside0.mk hB
  have HBH := Aside0.mk (show B ≤ w.heap.size by omega)
  have hcell2 := (blk_cell HG.out 2).trans (show _ = some (Value.int .i64 0) from rfl)
  have hcell3 := (blk_cell HG.out 3).trans (show _ = some (Value.int .i64 0) from rfl)
  have hcell4 := (blk_cell HG.out 4).trans (show _ = some (Value.int .i64 0) from rfl)
  have HCV1w := HCV1.out w (HCC1.out w HC.out)
  clear hC hF hG hl1 hl2 hcC1 hcC2 hcv1 hcv2 hds hdl hpt hz hp1 hp2 hn hnk hk hsz5 hs1 hs2 hs3 hvs hB hcl2 hc hcell2 hcell3 hcell4
  go_enter Tryd.func47, Tryd.ntmps47
  go_wp2_with fail
  refine HIX.out.mono ?_
  rintro e w1 ⟨rfl, rfl⟩
  go_wp2_with fail
  refine (HP1.out _).mono ?_
  rintro e w2 ⟨rfl, hb2⟩
  have HB2 := Aside0.mk hb2
  have HG2 := Aside0.mk (blk_below HG.out hb2)
  clear hb2 HIX HP1 HCV1w
  go_wp2_with fail
  refine (HU.out _).mono ?_
  rintro e w3 ⟨rfl, hb3⟩
  have HB3 := Aside0.mk (below_step HB2.out hb3)
  have HG3 := Aside0.mk (blk_below HG2.out hb3)
  clear hb3 HB2 HG2
  have hcell2 := (blk_cell HG3.out 2).trans (show _ = some (Value.int .i64 0) from rfl)
  have hcell3 := (blk_cell HG3.out 3).trans (show _ = some (Value.int .i64 0) from rfl)
  have hcell4 := (blk_cell HG3.out 4).trans (show _ = some (Value.int .i64 0) from rfl)
  have hf2 := blk_frozen HG3.out 2
  have hf3 := blk_frozen HG3.out 3
  have hf4 := blk_frozen HG3.out 4
  have hcvW := HCV2.out _ (HCC2.out _ (HF.out _ ((((KeepBut.of_below HB3.out gs none).set_ 2 (.int .i64 ((t : Int) + 62135596800))).set_ 3 (.int .i64 0)).set_ 4 (.int .i64 0))))
  have hx3 := HS3.out
  have hx2 := HS2.out
  have hx5 : (3 : Int) ≤ (sz.size : Int) := by have := HS1.out; omega
  go_wp2_with fail
  generalize hW4 : World.setCell _ _ _ = W4
  have HG4 := Aside0.mk (show W4.heap[gs]? = some (.cells (sgn N E ((t : Int) + 62135596800) 0) 64 (0, 0)) by rw [← hW4]; exact blk_put (cs := sgn N E ((t : Int) + 62135596800) 0) (blk_put (cs := sgn N E ((t : Int) + 62135596800) 0) (blk_put (cs := sgn N E 0 0) HG3.out 2 _ rfl) 3 _ rfl) 4 _ rfl)
  have HB4 := Aside0.mk (show Below B w W4 by rw [← hW4]; exact (((HB3.out.mono HBH.out).setCell (show B ≤ gs from HB.out) _).setCell (show B ≤ gs from HB.out) _).setCell (show B ≤ gs from HB.out) _)
  have HBS4 := Aside0.mk (show B ≤ W4.heap.size from Nat.le_trans HBH.out HB4.out.size)
  clear hW4 hcvW hcell2 hcell3 hcell4 hf2 hf3 hf4 HG3 HB3 HG
  refine (HP2.out _).mono ?_
  rintro e w5 ⟨rfl, hb5⟩
  have HB5 := Aside0.mk (HB4.out.trans (hb5.mono HBS4.out))
  have HG5 := Aside0.mk (blk_below HG4.out hb5)
  clear hb5 HP2 HG4 HB4
  go_wp2_with fail
  refine (HP3.out _).mono ?_
  rintro e w6 ⟨rfl, hb6⟩
  have HB6 := Aside0.mk (HB5.out.trans (hb6.mono (Nat.le_trans HBH.out HB5.out.size)))
  have HG6 := Aside0.mk (blk_below HG5.out hb6)
  clear hb6 HP3 HG5 HB5
  go_wp2_with fail
  refine (fixedZone_any _ _ _).mono ?_
  rintro e w7 ⟨rfl, hb7⟩
  have HB7 := Aside0.mk (HB6.out.trans (hb7.mono (Nat.le_trans HBH.out HB6.out.size)))
  have HG7 := Aside0.mk (blk_below HG6.out hb7)
  clear hb7 HG6 HB6
  go_wp2_with fail
  have HG8 := Aside0.mk (blk_alloc HG7.out (.cells #[.int .i64 (hv * 60 * 60 + -mv * 60)] 137 (0, 0)))
  have HN8 := Aside0.mk (heap_alloc_new w7 (.cells #[.int .i64 (hv * 60 * 60 + -mv * 60)] 137 (0, 0)))
  have HB8 := Aside0.mk (HB7.out.alloc (Nat.le_trans HBH.out HB7.out.size) (.cells #[.int .i64 (hv * 60 * 60 + -mv * 60)] 137 (0, 0)))
  obtain ⟨g8, hg8⟩ : ∃ g8, w7.heap.size = g8 := ⟨_, rfl⟩
  rw [hg8] at HN8
  obtain ⟨W8, hW8⟩ : ∃ W8, w7.alloc (.cells #[.int .i64 (hv * 60 * 60 + -mv * 60)] 137 (0, 0)) = W8 := ⟨_, rfl⟩
  rw [hW8] at HN8 HG8 HB8
  rw [hg8, hW8]
  clear hg8 hW8 HG7 HB7
  have q2 := (blk_cell HG8.out 2).trans (show _ = some (Value.int .i64 ((t : Int) + 62135596800)) from rfl)
  have q3 := (blk_cell HG8.out 3).trans (show _ = some (Value.int .i64 0) from rfl)
  have q4 := (blk_cell HG8.out 4).trans (show _ = some (Value.int .i64 0) from rfl)
  have q0 := (blk_cell HN8.out 0).trans (show _ = some (Value.int .i64 (hv * 60 * 60 + -mv * 60)) from rfl)
  go_region_with (go_at_call 80; refine (in_any _ _ _ _ _).mono ?_; rintro e w9 ⟨rfl, hb9⟩; have HG9 := Aside0.mk (blk_below (show W8.drew.heap[gs]? = _ from HG8.out) hb9); have HB9 := Aside0.mk (Below.trans (show Below B w W8.drew from below_drew HB8.out) (hb9.mono (Nat.le_trans HBH.out (show w.heap.size ≤ W8.drew.heap.size from HB8.out.size)))); clear hb9 q2 q3 q4 q0; have q2 := (blk_cell HG9.out 2).trans (show _ = some (Value.int .i64 ((t : Int) + 62135596800)) from rfl); have q3 := (blk_cell HG9.out 3).trans (show _ = some (Value.int .i64 0) from rfl); have q4 := (blk_cell HG9.out 4).trans (show _ = some (Value.int .i64 0) from rfl); have hf2 := blk_frozen HG9.out 2; have hf3 := blk_frozen HG9.out 3; have hf4 := blk_frozen HG9.out 4)
  all_goals go_wp2_with fail
  all_goals refine bodyPost_end (results_none rfl _ _ _) rfl ⟨rfl, ?_, (((HB9.out.setCell (show B ≤ gs from HB.out) _).setCell (show B ≤ gs from HB.out) _).setCell (show B ≤ gs from HB.out) _)⟩
  all_goals rw [show hv * 3600 - mv * 60 = hv * 60 * 60 + -mv * 60 by omega]
  all_goals exact blk_put (cs := sgn N E ((t : Int) + 62135596800) 0) (blk_put (cs := sgn N E ((t : Int) + 62135596800) 0) (blk_put (cs := sgn N E ((t : Int) + 62135596800) 0) HG9.out 2 _ rfl) 3 _ rfl) 4 _ rfl
theorem decodeTime_pos (w : World) (B gs n c : Nat) (N E : ByteArray) (t : Nat) (ds z : List UInt8) (hv mv : Int) (A : Option Addr) (hB : B ≤ gs) (ht : t < 1099511627776) (hds : 32 ∉ ds) (hdl : ds.length ≤ 20) (hpt : parseIntB 64 ds = .ok (t : Int))
    (hz : z.length = 5) (hp1 : parseIntB 64 (z.take 3) = .ok hv) (hp2 : parseIntB 64 (z.drop 3) = .ok mv) (hvs : 0 ≤ hv) (hv1 : -99 ≤ hv) (hv2 : hv ≤ 99) (mv1 : 0 ≤ mv) (mv2 : mv ≤ 59) (hn : (ds ++ 32 :: z).length = n) (hC : (Kd.int .u8).C w A n (bn (ds ++ 32 :: z))) (hc : n ≤ c) (hF : ∀ W', KeepBut w W' gs none → (Kd.int .u8).C W' A n (bn (ds ++ 32 :: z)))
    (hG : w.heap[gs]? = some (.cells (sgn N E 0 0) 64 (0, 0))) :
    Calls Tryd.prog 47 #[.pointer (some ⟨gs, 0, none⟩), .slice A n c] w fun e w' => e = .returned (.tuple #[]) ∧ w'.heap[gs]? = some (.cells (sgn N E ((t : Int) + 62135596800) (hv * 3600 + mv * 60)) 64 (0, 0)) ∧ Below B w w' := by
  have hsz := blk_lt hG
  obtain ⟨k, hk⟩ : ∃ k, ds.length = k := ⟨_, rfl⟩
  have hnk : n = k + 6 := by rw [← hn, List.length_append, List.length_cons, hz, hk]
  have HIX := Aside0.mk (index_any (c := c) hds hn hk hC)
  have hl1 : bn (ds ++ 32 :: z) = bn ds ++ bn (32 :: z) := bn_append _ _
  have hl2 : bn (ds ++ 32 :: z) = bn (ds ++ [32]) ++ bn z ++ [] := by rw [List.append_nil, ← bn_append, List.append_assoc]; rfl
  obtain ⟨hcut1, hcC1⟩ := take_C hl1 (n := n) (c := c) (m := k) (by rw [bn_length, hn]) (by rw [bn_length, hk]) (a := (k : Int)) rfl hc A
  obtain ⟨A2, hcut2, hcC2, hcl2⟩ := mid_C hl2 (n := n) (c := c) (m1 := k + 1) (m2 := 5) (k := c - (k + 1)) (by rw [bn_length, hn]) (by rw [bn_length, List.length_append, hk]; rfl) (by rw [bn_length, hz]) rfl (a := (k : Int) + 1) (b := (k : Int) + 1 + 5) (by omega) (by omega) hc A
  have hcv1 := fun (W : World) (h : (Kd.int .u8).C W A k (bn ds)) => (Kd.C_string (P := Tryd.prog) (dst := 9) (c := c) Tryd.underlying26 Tryd.underlying5 Tryd.underlying9 h).trans (by rw [str_bn])
  have hcv2 := fun (W : World) (h : (Kd.int .u8).C W A2 5 (bn z)) => (Kd.C_string (P := Tryd.prog) (dst := 9) (c := c - (k + 1)) Tryd.underlying26 Tryd.underlying5 Tryd.underlying9 h).trans (by rw [str_bn])
  have HP1 := Aside0.mk (parse_any (txt ds) ds t (txt_list ds) (by omega) hpt)
  obtain ⟨sz, hsz5⟩ : ∃ sz, txt z = sz := ⟨_, rfl⟩
  have hs1 : sz.size = 5 := by rw [← hsz5, txt_size, hz]
  obtain ⟨s3, hs3⟩ : ∃ s3, sz.extract 0 3 = s3 := ⟨_, rfl⟩
  obtain ⟨s2, hs2⟩ : ∃ s2, sz.extract 3 sz.size = s2 := ⟨_, rfl⟩
  have HP2 := Aside0.mk (parse_any s3 (z.take 3) hv (by rw [← hs3, ← hsz5, ByteArray.data_extract, Array.toList_extract]; simp [List.extract, txt]) (by rw [List.length_take]; omega) hp1)
  have HP3 := Aside0.mk (parse_any s2 (z.drop 3) mv (by rw [← hs2, ← hsz5, ByteArray.data_extract, Array.toList_extract, txt_size, hz]; simp [List.extract, txt]; rw [List.take_of_length_le (by rw [List.length_drop, hz]; exact Nat.le_refl _)]) (by rw [List.length_drop]; omega) hp2)
  have HU := Aside0.mk (unix_any t ht)
  rw [hsz5] at hcv2
  have HC := Aside0.mk hC
  have HF := Aside0.mk hF
  have HG := Aside0.mk hG
  have HCC1 := Aside0.mk hcC1
  have HCC2 := Aside0.mk hcC2
  have HCV1 := Aside0.mk hcv1
  have HCV2 := Aside0.mk hcv2
  have HS3 := Aside0.mk hs3
  have HS2 := Aside0.mk hs2
  have HS1 := Aside0.mk hs1
  have hk20 : k ≤ 20 := by omega
  have k0 : (0 : Int) ≤ (k : Int) := by omega
  have k1 : (k : Int) ≤ 20 := by omega
  have hne : ((k : Int) == -1) = false := by rw [beq_eq_false_iff_ne]; omega
  have c1 : decide ((n : Int) ≤ (k : Int) + 1) = false := decide_eq_false (by omega)
  have c2 : decide ((n : Int) < (k : Int) + 1 + 5) = false := decide_eq_false (by omega)
  have c3 : decide (n ≤ k + 1) = false := decide_eq_false (by omega)
  have c4 : decide (n < k + 1 + 5) = false := decide_eq_false (by omega)
  have t0 : (0 : Int) ≤ (t : Int) := by omega
  have t1 : (t : Int) < 1099511627776 := by omega
  have cs : decide (hv < 0) = false := decide_eq_false (by omega)
  have HB := Aside0.mk hB
  have HBH := Aside0.mk (show B ≤ w.heap.size by omega)
  have hcell2 := (blk_cell HG.out 2).trans (show _ = some (Value.int .i64 0) from rfl)
  have hcell3 := (blk_cell HG.out 3).trans (show _ = some (Value.int .i64 0) from rfl)
  have hcell4 := (blk_cell HG.out 4).trans (show _ = some (Value.int .i64 0) from rfl)
  have HCV1w := HCV1.out w (HCC1.out w HC.out)
  clear hC hF hG hl1 hl2 hcC1 hcC2 hcv1 hcv2 hds hdl hpt hz hp1 hp2 hn hnk hk hsz5 hs1 hs2 hs3 hvs hB hcl2 hc hcell2 hcell3 hcell4
  go_enter Tryd.func47, Tryd.ntmps47
  go_wp2_with fail
  refine HIX.out.mono ?_
  rintro e w1 ⟨rfl, rfl⟩
  go_wp2_with fail
  refine (HP1.out _).mono ?_
  rintro e w2 ⟨rfl, hb2⟩
  have HB2 := Aside0.mk hb2
  have HG2 := Aside0.mk (blk_below HG.out hb2)
  clear hb2 HIX HP1 HCV1w
  go_wp2_with fail
  refine (HU.out _).mono ?_
  rintro e w3 ⟨rfl, hb3⟩
  have HB3 := Aside0.mk (below_step HB2.out hb3)
  have HG3 := Aside0.mk (blk_below HG2.out hb3)
  clear hb3 HB2 HG2
  have hcell2 := (blk_cell HG3.out 2).trans (show _ = some (Value.int .i64 0) from rfl)
  have hcell3 := (blk_cell HG3.out 3).trans (show _ = some (Value.int .i64 0) from rfl)
  have hcell4 := (blk_cell HG3.out 4).trans (show _ = some (Value.int .i64 0) from rfl)
  have hf2 := blk_frozen HG3.out 2
  have hf3 := blk_frozen HG3.out 3
  have hf4 := blk_frozen HG3.out 4
  have hcvW := HCV2.out _ (HCC2.out _ (HF.out _ ((((KeepBut.of_below HB3.out gs none).set_ 2 (.int .i64 ((t : Int) + 62135596800))).set_ 3 (.int .i64 0)).set_ 4 (.int .i64 0))))
  have hx3 := HS3.out
  have hx2 := HS2.out
  have hx5 : (3 : Int) ≤ (sz.size : Int) := by have := HS1.out; omega
  go_wp2_with fail
  generalize hW4 : World.setCell _ _ _ = W4
  have HG4 := Aside0.mk (show W4.heap[gs]? = some (.cells (sgn N E ((t : Int) + 62135596800) 0) 64 (0, 0)) by rw [← hW4]; exact blk_put (cs := sgn N E ((t : Int) + 62135596800) 0) (blk_put (cs := sgn N E ((t : Int) + 62135596800) 0) (blk_put (cs := sgn N E 0 0) HG3.out 2 _ rfl) 3 _ rfl) 4 _ rfl)
  have HB4 := Aside0.mk (show Below B w W4 by rw [← hW4]; exact (((HB3.out.mono HBH.out).setCell (show B ≤ gs from HB.out) _).setCell (show B ≤ gs from HB.out) _).setCell (show B ≤ gs from HB.out) _)
  have HBS4 := Aside0.mk (show B ≤ W4.heap.size from Nat.le_trans HBH.out HB4.out.size)
  clear hW4 hcvW hcell2 hcell3 hcell4 hf2 hf3 hf4 HG3 HB3 HG
  refine (HP2.out _).mono ?_
  rintro e w5 ⟨rfl, hb5⟩
  have HB5 := Aside0.mk (HB4.out.trans (hb5.mono HBS4.out))
  have HG5 := Aside0.mk (blk_below HG4.out hb5)
  clear hb5 HP2 HG4 HB4
  go_wp2_with fail
  refine (HP3.out _).mono ?_
  rintro e w6 ⟨rfl, hb6⟩
  have HB6 := Aside0.mk (HB5.out.trans (hb6.mono (Nat.le_trans HBH.out HB5.out.size)))
  have HG6 := Aside0.mk (blk_below HG5.out hb6)
  clear hb6 HP3 HG5 HB5
  go_wp2_with fail
  refine (fixedZone_any _ _ _).mono ?_
  rintro e w7 ⟨rfl, hb7⟩
  have HB7 := Aside0.mk (HB6.out.trans (hb7.mono (Nat.le_trans HBH.out HB6.out.size)))
  have HG7 := Aside0.mk (blk_below HG6.out hb7)
  clear hb7 HG6 HB6
  go_wp2_with fail
  have HG8 := Aside0.mk (blk_alloc HG7.out (.cells #[.int .i64 (hv * 60 * 60 + mv * 60)] 137 (0, 0)))
  have HN8 := Aside0.mk (heap_alloc_new w7 (.cells #[.int .i64 (hv * 60 * 60 + mv * 60)] 137 (0, 0)))
  have HB8 := Aside0.mk (HB7.out.alloc (Nat.le_trans HBH.out HB7.out.size) (.cells #[.int .i64 (hv * 60 * 60 + mv * 60)] 137 (0, 0)))
  obtain ⟨g8, hg8⟩ : ∃ g8, w7.heap.size = g8 := ⟨_, rfl⟩
  rw [hg8] at HN8
  obtain ⟨W8, hW8⟩ : ∃ W8, w7.alloc (.cells #[.int .i64 (hv * 60 * 60 + mv * 60)] 137 (0, 0)) = W8 := ⟨_, rfl⟩
  rw [hW8] at HN8 HG8 HB8
  rw [hg8, hW8]
  clear hg8 hW8 HG7 HB7
  have q2 := (blk_cell HG8.out 2).trans (show _ = some (Value.int .i64 ((t : Int) + 62135596800)) from rfl)
  have q3 := (blk_cell HG8.out 3).trans (show _ = some (Value.int .i64 0) from rfl)
  have q4 := (blk_cell HG8.out 4).trans (show _ = some (Value.int .i64 0) from rfl)
  have q0 := (blk_cell HN8.out 0).trans (show _ = some (Value.int .i64 (hv * 60 * 60 + mv * 60)) from rfl)
  go_region_with (go_at_call 80; refine (in_any _ _ _ _ _).mono ?_; rintro e w9 ⟨rfl, hb9⟩; have HG9 := Aside0.mk (blk_below (show W8.drew.heap[gs]? = _ from HG8.out) hb9); have HB9 := Aside0.mk (Below.trans (show Below B w W8.drew from below_drew HB8.out) (hb9.mono (Nat.le_trans HBH.out (show w.heap.size ≤ W8.drew.heap.size from HB8.out.size)))); clear hb9 q2 q3 q4 q0; have q2 := (blk_cell HG9.out 2).trans (show _ = some (Value.int .i64 ((t : Int) + 62135596800)) from rfl); have q3 := (blk_cell HG9.out 3).trans (show _ = some (Value.int .i64 0) from rfl); have q4 := (blk_cell HG9.out 4).trans (show _ = some (Value.int .i64 0) from rfl); have hf2 := blk_frozen HG9.out 2; have hf3 := blk_frozen HG9.out 3; have hf4 := blk_frozen HG9.out 4)
  all_goals go_wp2_with fail
  all_goals refine bodyPost_end (results_none rfl _ _ _) rfl ⟨rfl, ?_, (((HB9.out.setCell (show B ≤ gs from HB.out) _).setCell (show B ≤ gs from HB.out) _).setCell (show B ≤ gs from HB.out) _)⟩
  all_goals rw [show hv * 3600 + mv * 60 = hv * 60 * 60 + mv * 60 by omega]
  all_goals exact blk_put (cs := sgn N E ((t : Int) + 62135596800) 0) (blk_put (cs := sgn N E ((t : Int) + 62135596800) 0) (blk_put (cs := sgn N E ((t : Int) + 62135596800) 0) HG9.out 2 _ rfl) 3 _ rfl) 4 _ rfl
end Go.Proofs.YtmdffoplfiamlaaDoor.who
