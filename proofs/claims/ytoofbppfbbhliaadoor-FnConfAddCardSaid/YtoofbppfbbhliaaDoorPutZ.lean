/- config: Config.AddOption for a section itself. config: a section lent for a change of its parts; a part lent to AddOption. config: Config.AddOption for a part of a section. config: impl.AddOption. -/
import Derived.Test.YtoofbppfbbhliaaDoorPudH
import Derived.Test.YtoofbppfbbhliaaDoorPutK
namespace Go.Proofs.YtoofbppfbbhliaaDoor.confP
open Go.RowKit Go.Proofs.YtoofbppfbbhliaaDoorW.PrintWords Go.Proofs.YtoofbppfbbhliaaDoorW.PrintLast Go.Proofs.YtoofbppfbbhliaaDoorW.PrintMore Go.Proofs.YtoofbppfbbhliaaDoor.PFnConfAdd Go.Proofs.YtoofbppfbbhliaaDoor.ptr
set_option linter.unusedVariables false
set_option linter.unusedSimpArgs false
set_option maxHeartbeats 2000000
set_option maxRecDepth 100000
theorem Placed.of {α : Type} {p : α → Bool} {d : α} {l l' : List α} {j : Nat} (h : Placed p d l l' j) (q : α → Prop) (hd : q d) (hl : ∀ x ∈ l, q x) (hj : j < l'.length) : q l'[j] := by
  rcases h with ⟨rfl, h, _⟩ | ⟨rfl, rfl, _⟩
  · exact hl _ (List.getElem_mem h)
  · simpa using hd
/-- The sections with an option more in one of them. -/
def SecPut (l : List S71) (name : ByteArray) (o : S112) (l2 : List S71) : Prop := ∃ l' j, Placed (fun s : S71 => eqB s.f0 name) ⟨name, [], []⟩ l l' j ∧ ∃ h : j < l'.length, l2 = l'.set j ⟨l'[j].f0, l'[j].f1 ++ [o], l'[j].f2⟩
/-- A configuration whose sections are these, kept apart. -/
def HoldsS (gc base : Nat) (u0 u2 : Value) (w : World) (ll : List S71 → Prop) (e : Ending) (w' : World) : Prop := ∃ v' l2, e = .returned (.pointer (some ⟨gc, 0, none⟩)) ∧ ll l2 ∧ w'.heap[gc]? = some (.cells #[u0, v', u2] 163 (0, 0)) ∧ Kd.S kPS 122 w' base (fun _ => True) v' l2 ∧ Below base w w'
theorem cfgAdd0_any (gc : Nat) (v : Value) (u0 u2 : Value) (l : List S71) (name sub key value : ByteArray) (base : Nat) (w : World) (hsub : sub.toList = []) (hbase : base ≤ w.heap.size) (hgb : base ≤ gc) (hC : w.heap[gc]? = some (.cells #[u0, v, u2] 163 (0, 0))) (HO : Kd.S kPS 122 w base (fun _ => True) v l)
    (hw : ∀ s ∈ l, Word s.f0) (ha : Word name) (hl : l.length ≤ 4294967295) (hf : ∀ s ∈ l, s.f1.length ≤ 4294967295) :
    Calls Tryd.prog 76 #[.pointer (some ⟨gc, 0, none⟩), .string name, .string sub, .string key, .string value] w (HoldsS gc base u0 u2 w (SecPut l name ⟨key, value⟩)) := by
  have e1 : (sub.toList == ([] : List UInt8)) = true := beq_iff_eq.mpr hsub
  have e2 : sub.toList.isEmpty = true := by rw [hsub]; rfl
  have HS := Aside0.mk (sectionS_any gc v u0 u2 l name base w hbase hgb hC HO hw ha hl)
  have HBS := Aside0.mk hbase
  have HF := Aside0.mk hf
  clear hsub hC HO hw ha hl hf hbase hgb
  go_enter Tryd.func76, Tryd.ntmps76
  go_wp2_with fail
  refine HS.out.mono ?_
  clear HS
  rintro e w1 ⟨g, v', l', j, ad, cap, rfl, hP, hgc, hS, hv, hcell, hb⟩
  have hlt : j < l'.length := hP.lt
  obtain ⟨vO, u, ok, hg, hgb, hRO, hbO, hback⟩ := lent hS hlt hv hcell
  have hbase1 := Nat.le_trans HBS.out hb.size
  have HA := Aside0.mk (secAdd_any g _ u vO (l'[j]'hlt).f1 key value ok base w1 hbase1 hg hRO (hP.of (fun s => s.f1.length ≤ 4294967295) (Nat.zero_le _) HF.out hlt))
  have HGC := Aside0.mk hgc
  have HN1 := Aside0.mk (blk_ne hgc hg (by decide))
  have HN2 := Aside0.mk (Kd.R_ne hRO hgc (by decide))
  have HBK := Aside0.mk hback
  have HB := Aside0.mk hb
  have HP := Aside0.mk hP
  have HX := Aside0.mk (show ∀ w2, Near w1 w2 g vO.ownBlock → Below base w1 w2 from fun w2 h => h.below hbase1 hgb hbO)
  clear hP hgc hS hv hcell hb hg hgb hRO hbO hback hbase1
  go_wp2_with fail
  refine HA.out.mono ?_
  clear HA
  rintro e w2 ⟨v1, rfl, hg2, hR2, hN⟩
  have HS2 := Aside0.mk (HBK.out w2 v1 ⟨key, value⟩ hg2 hR2 hN)
  have HG2 := Aside0.mk ((hN.block gc (blk_lt HGC.out) HN1.out HN2.out).trans HGC.out)
  have HB2 := Aside0.mk (HB.out.trans (HX.out w2 hN))
  clear hg2 hR2 hN
  go_wp2
  go_ret
  exact ⟨v', _, rfl, ⟨l', j, HP.out, HP.out.lt, rfl⟩, HG2.out, HS2.out, HB2.out⟩
theorem same_ptr {α : Type} {t e : Nat} {d : Kd α} {w : World} {base g j cap : Nat} {ok : Nat → Prop} {v : Value} {l : List α} {ad : Addr} (hS : Kd.S (ptr t d) e w base ok v l) (hj : j < l.length) (hv : v = .slice (some ad) l.length cap) (hc : w.cell? (ad.add j) = some (.pointer (some ⟨g, 0, none⟩))) :
    ∃ arr oki, base ≤ g ∧ w.heap[g]? = some (.cells arr t (0, 0)) ∧ oki g ∧ (∀ k, oki k → ok k) ∧ d.M w base (fun k => oki k ∧ k ≠ g) l[j] arr.toList ∧ Kd.H (ptr t d) e w base ok v l (j : Int) oki [.pointer (some ⟨g, 0, none⟩)] := by
  obtain ⟨gr, cap', g', arr, oki, ev, hcap, hcell, hgb, hg, hog, hoki, hM, hH⟩ := lend_ptr hS j hj
  have ead : ad = ⟨gr, 0, none⟩ := by
    have := hv.symm.trans ev
    injection this with h1 _ _
    exact Option.some.inj h1
  subst ead
  have hgg : g' = g := by
    have h1 := hc
    rw [Go.Proofs.YtoofbppfbbhliaaDoorW.PrintWords.add_plain] at h1
    have := h1.symm.trans hcell
    simp at this
    exact this.symm
  subst hgg
  exact ⟨arr, oki, hgb, hg, hog, fun k hk => (hoki k hk).1, hM, hH⟩
theorem lent2 {w : World} {base g j cap : Nat} {v : Value} {l' : List S71} {ad : Addr} (hS : Kd.S kPS 122 w base (fun _ => True) v l') (hj : j < l'.length) (hv : v = .slice (some ad) l'.length cap) (hc : w.cell? (ad.add j) = some (.pointer (some ⟨g, 0, none⟩))) :
    ∃ vO u ok, w.heap[g]? = some (.cells #[.string l'[j].f0, vO, u] 169 (0, 0)) ∧ base ≤ g ∧ Kd.S kU 155 w base ok u l'[j].f2 ∧ (∀ k, ok k → k ≠ g) ∧
      ∀ (w' : World) (u' : Value) (f2 : List S115), w'.heap[g]? = some (.cells #[.string l'[j].f0, vO, u'] 169 (0, 0)) → Kd.S kU 155 w' base (fun k => ok k ∨ w.heap.size ≤ k) u' f2 → (∀ k, k < w.heap.size → k ≠ g → ¬ ok k → w'.heap[k]? = w.heap[k]?) →
        Kd.S kPS 122 w' base (fun _ => True) v (l'.set j ⟨l'[j].f0, l'[j].f1, f2⟩) := by
  obtain ⟨arr, oki, hgb, hg, hog, _, hM, hH⟩ := same_ptr hS hj hv hc
  obtain ⟨vO, u, p, ea, hRO, hSU⟩ := kSecS_openM hM
  obtain ⟨arr⟩ := arr
  simp only at ea
  subst ea
  refine ⟨vO, u, _, hg, hgb, hSU, fun k hk => hk.1.2, fun w' u' f2 hg' hS' hN => ?_⟩
  have hlt : g < w.heap.size := blk_lt hg
  have hH2 := Kd.H_step (Kd.H_widen hH) (w1 := w') (fun k _ hno hk => hN k hk (fun he => hno (Or.inl (he ▸ hog))) (fun he => hno (Or.inl he.1.1)))
  have hRO2 := Kd.R_step (w1 := w') (Kd.R_mono (Kd.R_bound hRO) (fun k hk => (⟨⟨⟨Or.inl hk.1.1.1, hk.1.1.2⟩, fun h => h.elim (fun h2 => h2 hk.1.2) (fun h2 => absurd hk.2.2.1 (Nat.not_lt.2 h2))⟩, hk.1.2⟩ : (((oki k ∨ True ∧ w.heap.size ≤ k) ∧ k ≠ g) ∧ ¬ (¬ p k ∨ w.heap.size ≤ k)) ∧ p k))) (fun k hk hlk => hN k hlk hk.1.1.2 (fun he => he.2 hk.2))
  refine back_ptr (okp := fun _ => True) hH2 (Or.inl hog) hgb hg' ?_
  refine kSecS_mkM (p := fun k => ¬ (¬ p k ∨ w.heap.size ≤ k)) (Kd.R_mono hRO2 (fun k hk => hk.1)) (Kd.S_mono hS' (fun k hk => ?_))
  rcases hk with h | h
  · exact ⟨⟨Or.inl h.1.1, h.1.2⟩, fun hh => hh (Or.inl h.2)⟩
  · exact ⟨⟨Or.inr ⟨trivial, h⟩, by omega⟩, fun hh => hh (Or.inr h)⟩
theorem lentP {w : World} {base g i cap : Nat} {ok : Nat → Prop} {v : Value} {l : List S115} {ad : Addr} (hS0 : Kd.S kU 155 w base ok v l) (hi : i < l.length) (hv : v = .slice (some ad) l.length cap) (hc : w.cell? (ad.add i) = some (.pointer (some ⟨g, 0, none⟩))) :
    ∃ vP okp, w.heap[g]? = some (.cells #[.string l[i].f0, vP] 172 (0, 0)) ∧ base ≤ g ∧ ok g ∧ Kd.R kO 194 w base okp vP l[i].f1 ∧ (∀ k, vP.ownBlock = some k → base ≤ k ∧ ok k) ∧
      ∀ (w' : World) (v1 : Value) (o : S112), w'.heap[g]? = some (.cells #[.string l[i].f0, v1] 172 (0, 0)) → Kd.R kO 194 w' base (fun k => okp k ∨ w.heap.size ≤ k) v1 (l[i].f1 ++ [o]) → Near w w' g vP.ownBlock →
        Kd.S kU 155 w' base (fun k => ok k ∨ w.heap.size ≤ k) v (l.set i ⟨l[i].f0, l[i].f1 ++ [o]⟩) := by
  have hS := (Kd.S_mono hS0 (fun k hk => Or.inl hk) : Kd.S kU 155 w base (fun k => ok k ∨ w.heap.size ≤ k) v l)
  obtain ⟨arr, oki, hgb, hg, hog, hoki, hM, hH⟩ := same_ptr hS hi hv hc
  obtain ⟨vP, ea, hRO⟩ := kSub_openM hM
  obtain ⟨arr⟩ := arr
  simp only at ea
  subst ea
  have hlt : g < w.heap.size := blk_lt hg
  refine ⟨vP, _, hg, hgb, (hoki g hog).resolve_right (by omega), hRO, fun k hk => ⟨Kd.R_base hRO k hk, (hoki k (hRO.1 k hk).1).resolve_right (by have := Kd.R_lt hRO k hk; omega)⟩, fun w' v1 o hg' hR' hN => ?_⟩
  have hH2 := Kd.H_step (Kd.H_widen hH) (w1 := w') (fun k _ hno hk => hN.block k hk (fun he => hno (Or.inl (he ▸ hog))) (fun he => hno (Or.inl (hRO.1 k he.symm).1)))
  refine back_ptr (okp := fun _ => True) hH2 (Or.inl hog) hgb hg' ?_
  exact kSub_mkM (Kd.R_mono hR' (fun k hk => hk.elim (fun h => ⟨Or.inl h.1, h.2⟩) (fun h => ⟨Or.inr ⟨Or.inr h, h⟩, by omega⟩)))
/-- The sections with an option more in a part of one of them. -/
def PartPut (l : List S71) (name sub : ByteArray) (o : S112) (l2 : List S71) : Prop := ∃ l' j, Placed (fun s : S71 => eqB s.f0 name) ⟨name, [], []⟩ l l' j ∧ ∃ h : j < l'.length, ∃ f2 i, Placed (fun s : S115 => eqB s.f0 sub) ⟨sub, []⟩ l'[j].f2 f2 i ∧ ∃ h2 : i < f2.length, l2 = l'.set j ⟨l'[j].f0, l'[j].f1, f2.set i ⟨f2[i].f0, f2[i].f1 ++ [o]⟩⟩
theorem cfgAdd1_any (gc : Nat) (v : Value) (u0 u2 : Value) (l : List S71) (name sub key value : ByteArray) (base : Nat) (w : World) (hsub : ¬ sub.toList = []) (hbase : base ≤ w.heap.size) (hgb : base ≤ gc) (hC : w.heap[gc]? = some (.cells #[u0, v, u2] 163 (0, 0))) (HO : Kd.S kPS 122 w base (fun _ => True) v l)
    (hw : ∀ s ∈ l, Word s.f0) (ha : Word name) (hl : l.length ≤ 4294967295) (hf : ∀ s ∈ l, s.f2.length ≤ 4294967295 ∧ ∀ x ∈ s.f2, x.f1.length ≤ 4294967295) :
    Calls Tryd.prog 76 #[.pointer (some ⟨gc, 0, none⟩), .string name, .string sub, .string key, .string value] w (HoldsS gc base u0 u2 w (PartPut l name sub ⟨key, value⟩)) := by
  have e1 : (sub.toList == ([] : List UInt8)) = false := beq_eq_false_iff_ne.mpr hsub
  have e2 : sub.toList.isEmpty = false := by cases h : sub.toList with | nil => exact absurd h hsub | cons => rfl
  have HS := Aside0.mk (sectionS_any gc v u0 u2 l name base w hbase hgb hC HO hw ha hl)
  have HBS := Aside0.mk hbase
  have HF := Aside0.mk hf
  clear hsub hC HO hw ha hl hf hbase hgb
  go_enter Tryd.func76, Tryd.ntmps76
  go_wp2_with fail
  refine HS.out.mono ?_
  clear HS
  rintro e w1 ⟨g, v', l', j, ad, cap, rfl, hP, hgc, hS, hv, hcell, hb⟩
  have hlt : j < l'.length := hP.lt
  obtain ⟨vO, u, ok, hg, hgb, hSU, hkg, hback⟩ := lent2 hS hlt hv hcell
  have hbase1 := Nat.le_trans HBS.out hb.size
  have hq := hP.of (fun s : S71 => s.f2.length ≤ 4294967295 ∧ ∀ x ∈ s.f2, x.f1.length ≤ 4294967295) ⟨Nat.zero_le _, fun x hx => by cases hx⟩ HF.out hlt
  have HA := Aside0.mk (subsectionS_any g u (.string (l'[j]'hlt).f0) vO (l'[j]'hlt).f2 sub base ok w1 hbase1 hgb hg hSU hq.1)
  have HQ := Aside0.mk hq.2
  have HGC := Aside0.mk hgc
  have HN1 := Aside0.mk (blk_ne hgc hg (by decide))
  have HN2 := Aside0.mk (Kd.S_ne hSU hgc (by decide))
  have HBK := Aside0.mk hback
  have HB := Aside0.mk hb
  have HP := Aside0.mk hP
  have HB1 := Aside0.mk hbase1
  have HGB := Aside0.mk hgb
  have HG := Aside0.mk hg
  have HKG := Aside0.mk hkg
  have HUO := Aside0.mk (show ∀ k, u.ownBlock = some k → ok k from (Kd.S_R hSU).1)
  have HUB := Aside0.mk (Kd.S_base hSU)
  clear hP hgc hS hv hcell hb hg hgb hSU hkg hback hbase1 hq
  go_wp2_with fail
  refine HA.out.mono ?_
  clear HA
  rintro e w2 ⟨g2, u', f2, i, ad2, cap2, rfl, hP2, hg2, hS2, hv2, hcell2, hN⟩
  have hlt2 : i < f2.length := hP2.lt
  obtain ⟨vP, okp, hgp, hgb2, hok2, hRO, hown, hback2⟩ := lentP hS2 hlt2 hv2 hcell2
  have HN := Aside0.mk hN
  have HB2 := Aside0.mk (Nat.le_trans HB1.out hN.size)
  have HA := Aside0.mk (subAdd_any g2 _ vP (f2[i]'hlt2).f1 key value okp base w2 HB2.out hgp hRO (hP2.of (fun x : S115 => x.f1.length ≤ 4294967295) (Nat.zero_le _) HQ.out hlt2))
  have HG2 := Aside0.mk hg2
  have HGC2 := Aside0.mk ((hN.block gc (blk_lt HGC.out) HN1.out HN2.out).trans HGC.out)
  have HN3 := Aside0.mk (blk_ne HGC2.out hgp (by decide))
  have HN4 := Aside0.mk (Kd.R_ne hRO HGC2.out (by decide))
  have HN5 := Aside0.mk (blk_ne hg2 hgp (by decide))
  have HN6 := Aside0.mk (Kd.R_ne hRO hg2 (by decide))
  have HBK2 := Aside0.mk hback2
  have HP2 := Aside0.mk hP2
  have HOK2 := Aside0.mk hok2
  have HOW := Aside0.mk hown
  have HGB2 := Aside0.mk hgb2
  clear hP2 hg2 hS2 hv2 hcell2 hN hgp hgb2 hok2 hRO hown hback2
  go_wp2_with fail
  refine HA.out.mono ?_
  clear HA
  rintro e w3 ⟨v1, rfl, hg3, hR3, hN3⟩
  have hS3 := HBK2.out w3 v1 ⟨key, value⟩ hg3 hR3 hN3
  have hSU3 := (Kd.S_mono hS3 (fun k hk => hk.elim id (fun h => Or.inr (Nat.le_trans HN.out.size h))) : Kd.S kU 155 w3 base (fun k => ok k ∨ w1.heap.size ≤ k) u' _)
  have hgS := (hN3.block g (blk_lt HG2.out) HN5.out HN6.out).trans HG2.out
  have HS3 := Aside0.mk (HBK.out w3 u' _ hgS hSU3 (fun k hk hne hno => (hN3.block k (Nat.lt_of_lt_of_le hk HN.out.size) (fun he => HOK2.out.elim (fun h => hno (he ▸ h)) (fun h => by omega)) (fun he => (HOW.out k he.symm).2.elim (fun h => hno h) (fun h => by omega))).trans (HN.out.block k hk hne (fun he => hno (HUO.out k he.symm)))))
  have HG3 := Aside0.mk ((hN3.block gc (blk_lt HGC2.out) HN3.out HN4.out).trans HGC2.out)
  have HBF := Aside0.mk ((HB.out.trans (HN.out.below HB1.out HGB.out HUB.out)).trans (hN3.below HB2.out HGB2.out (fun k hk => (HOW.out k hk).1)))
  clear hg3 hR3 hN3 hS3 hSU3 hgS
  go_wp2
  go_ret
  exact ⟨v', _, rfl, ⟨l', j, HP.out, hlt, f2, i, HP2.out, hlt2, rfl⟩, HG3.out, HS3.out, HBF.out⟩
/-- The sections with an option more. -/
def CfgPut (l : List S71) (name sub : ByteArray) (o : S112) (l2 : List S71) : Prop := (sub.toList = [] ∧ SecPut l name o l2) ∨ (¬ sub.toList = [] ∧ PartPut l name sub o l2)
theorem cfgAdd_any (gc : Nat) (v : Value) (u0 u2 : Value) (l : List S71) (name sub key value : ByteArray) (base : Nat) (w : World) (hbase : base ≤ w.heap.size) (hgb : base ≤ gc) (hC : w.heap[gc]? = some (.cells #[u0, v, u2] 163 (0, 0))) (HO : Kd.S kPS 122 w base (fun _ => True) v l)
    (hw : ∀ s ∈ l, Word s.f0) (ha : Word name) (hl : Fits l) :
    Calls Tryd.prog 76 #[.pointer (some ⟨gc, 0, none⟩), .string name, .string sub, .string key, .string value] w (HoldsS gc base u0 u2 w (CfgPut l name sub ⟨key, value⟩)) := by
  by_cases hsub : sub.toList = []
  · refine (cfgAdd0_any gc v u0 u2 l name sub key value base w hsub hbase hgb hC HO hw ha hl.1 (fun s hs => (hl.2 s hs).1)).mono ?_
    rintro e w' ⟨v', l2, h1, h2, h3, h4, h5⟩
    exact ⟨v', l2, h1, .inl ⟨hsub, h2⟩, h3, h4, h5⟩
  · refine (cfgAdd1_any gc v u0 u2 l name sub key value base w hsub hbase hgb hC HO hw ha hl.1 (fun s hs => ⟨(hl.2 s hs).2.1, (hl.2 s hs).2.2⟩)).mono ?_
    rintro e w' ⟨v', l2, h1, h2, h3, h4, h5⟩
    exact ⟨v', l2, h1, .inr ⟨hsub, h2⟩, h3, h4, h5⟩
/-- What impl.AddOption tells. -/
def PutOut (w : World) (ll : List S71 → Prop) (e : Ending) (w' : World) : Prop := ∃ v l2, e = .returned v ∧ ll l2 ∧ Kd.R k71 71 w' w.heap.size (fun _ => True) v l2 ∧ Below w.heap.size w w'
/-- (The lists that are told must not be too long: to be shown of the law's own.) -/
theorem implAdd_any (A0 : Option Addr) (c0 : Nat) (l0 : List S71) (name sub key value : ByteArray) (w : World) (hr0 : Kd.C k71 w A0 l0.length l0) (hc0 : l0.length ≤ c0) (hl : Fits l0) (hw : ∀ s ∈ l0, Word s.f0) (ha : Word name) (hl2 : ∀ l2, CfgPut l0 name sub ⟨key, value⟩ l2 → Fits l2) :
    Calls Tryd.prog 44 #[.slice A0 l0.length c0, .string name, .string sub, .string key, .string value] w (PutOut w (CfgPut l0 name sub ⟨key, value⟩)) := by
  have HC0 := Aside0.mk (configOfS_any A0 c0 l0 w hr0 hc0 hl)
  have HL := Aside0.mk hl
  have HW := Aside0.mk hw
  have HA := Aside0.mk ha
  have HL2 := Aside0.mk hl2
  clear hr0 hl hw ha hl2
  go_enter Tryd.func44, Tryd.ntmps44
  go_wp2_with fail
  refine HC0.out.mono ?_
  clear HC0
  rintro e w1 ⟨gc, v, rfl, hgc, hbc, hS, hb1⟩
  have HS1 := Aside0.mk (cfgAdd_any gc v (.pointer none) (.slice none 0 0) l0 name sub key value w.heap.size w1 hb1.size hgc hbc hS HW.out HA.out HL.out)
  have HB1 := Aside0.mk hb1
  clear hgc hbc hS hb1
  go_wp2_with fail
  refine HS1.out.mono ?_
  clear HS1
  rintro e w2 ⟨v2, l2, rfl, hp2, hbc2, hS2, hb2⟩
  obtain ⟨A2, c2, e2, hc2, hC2⟩ := Kd.S_reads hS2
  subst e2
  have hCP : Kd.C kP w2 A2 l2.length l2 := Kd.C_imp (d := kPS) (d' := kP) rfl (fun _ _ _ h => h) hC2
  have HS2 := Aside0.mk (sectionsOf_any gc A2 c2 l2 w2 hbc2 hCP hc2 (HL2.out l2 hp2))
  have HB2 := Aside0.mk (HB1.out.trans hb2)
  have HP2 := Aside0.mk hp2
  clear hbc2 hS2 hb2 hC2 HB1 hCP hp2
  go_wp2_with fail
  refine HS2.out.mono ?_
  clear HS2
  rintro e w3 ⟨v3, rfl, hR3, hb3⟩
  have HR3 := Aside0.mk (Kd.R_lower hR3 HB2.out.size)
  have HB3 := Aside0.mk (below_step HB2.out hb3)
  obtain ⟨A3, c3, e3⟩ := Kd.R_slice hR3
  subst e3
  clear hR3 hb3
  go_wp2
  go_ret
  exact ⟨_, l2, rfl, HP2.out, HR3.out, HB3.out⟩
end Go.Proofs.YtoofbppfbbhliaaDoor.confP
