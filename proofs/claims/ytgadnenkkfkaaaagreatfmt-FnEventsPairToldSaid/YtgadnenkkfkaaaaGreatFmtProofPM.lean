/- What is proved here: FnEventsPair answers true for every input, and the input reads as it did: the told and tied card. Conditions: none beyond those of the theorem itself. -/
import Derived.Test.YtgadnenkkfkaaaaGreatFmtMk
import Derived.Test.YtgadnenkkfkaaaaGreatFmtMj
import Derived.Test.YtgadnenkkfkaaaaGreatFmtMr
import Derived.Test.YtgadnenkkfkaaaaGreatFmtMl
set_option linter.all false
set_option linter.unusedVariables false
set_option linter.unusedSimpArgs false
/- What is proved here: spec.Events of a declaration. -/
namespace Go.Proofs.YtgadnenkkfkaaaaGreatFmt
open Go.RowKit Go.Shelf
set_option linter.unusedVariables false
set_option linter.unusedSimpArgs false
/-- What it gives: an owned row of texts. -/
def TextsPost (w : World) (L : List ByteArray) (e : Ending) (w' : World) : Prop := ∃ v', e = .returned v' ∧ Below w.heap.size w w' ∧ w'.ownsRow w.heap.size 9 1 v' L.length (L.map Value.string)
theorem ones_texts (L : List ByteArray) : ∀ u ∈ L.map Value.string, u.oneCell' = true := by
  intro u hu
  obtain ⟨s, _, rfl⟩ := List.mem_map.1 hu
  rfl

set_option maxHeartbeats 8000000 in
set_option maxRecDepth 100000 in
theorem specEvents_any (stop : ByteArray) (f : Nat) (hf : f ≤ 400) : ∀ {C : Nat → Nat → Value → Prop} {n : N} {t b : Nat}, Rep C n (Nd t b) → n.size ≤ f → ∀ (v : Value) (w : World), KidsAt (· < w.heap.size) w v n.kids →
    Calls Tryz.prog 15 #[n.val v, .string stop] w (TextsPost w (evs stop.toList f n)) := by
  induction f with
  | zero => intro C n t b hR hn; have := N.size_eq n; omega
  | succ f ih =>
    intro C n t b hR hn v w hk
    have hbr := hR.below_rep
    have hkl := kinds_le (f + 1) hR
    obtain ⟨i0, hi, hz0, hz1, hz2⟩ := info_parts infoString
    have HI0 := Lib.hid (And.intro hi (And.intro hz0 (And.intro hz1 hz2)))
    obtain ⟨a, cap, rfl, hcap, _⟩ := hk.shape
    have HIH := Lib.hid (fun (C : Nat → Nat → Value → Prop) (n : N) (t b : Nat) (hR : Rep C n (Nd t b)) => @ih (by omega) C n t b hR)
    have HR := Lib.hid hR
    have HK := Lib.hid hk
    have HBR := Lib.hid hbr
    have hes := (evs_le stop.toList (f + 1) n)
    have HES := Lib.hid (show (evs stop.toList (f + 1) n).length ≤ 4 * 400 by omega)
    have hbW := (Below.refl w.heap.size w).alloc (Nat.le_refl _) (Obj.cells #[Value.string n.kind, Value.string n.text, .slice a n.kids.length cap] 24)
    have hbW2 := hbW.alloc (by simp) (Obj.cells #[.string n.kind] 9)
    have how := own_new1 (w.alloc (Obj.cells #[Value.string n.kind, Value.string n.text, .slice a n.kids.length cap] 24)) (.string n.kind) 9 9 rfl
    clear hi hz0 hz1 hz2 ih hR hk hbr hkl hes
    cases hst : (n.kind.toList == stop.toList) with
    | true =>
      have hev : evs stop.toList (f + 1) n = [n.kind] := by simp [evs, hst]
      rw [hev]
      have HFIN := Lib.hid (And.intro hbW2 (own_mono how (by simp : w.heap.size ≤ _)))
      clear hbW hbW2 how
      unfold N.val
      go_enter Tryz.func15, Tryz.ntmps15
      go_wp2_with fail
      go_ret
      exact ⟨_, rfl, HFIN.out.1, by simpa using HFIN.out.2⟩
    | false =>
      have hev : evs stop.toList (f + 1) n = n.kind :: ((subs n).flatMap (evs stop.toList f) ++ [(⟨#[]⟩ : ByteArray)]) := by simp [evs, hst]
      rw [hev]
      rw [hev] at HES
      clear hev
      have HBW := Lib.hid hbW2
      have HOW := Lib.hid (own_mono how (by simp : w.heap.size ≤ _))
      have hsz2 : ((w.alloc (Obj.cells #[Value.string n.kind, Value.string n.text, .slice a n.kids.length cap] 24)).alloc (Obj.cells #[.string n.kind] 9)).heap.size = w.heap.size + 2 := by simp
      have BN : Blk ((w.alloc (Obj.cells #[Value.string n.kind, Value.string n.text, .slice a n.kids.length cap] 24)).alloc (Obj.cells #[.string n.kind] 9)) w.heap.size 24 #[Value.string n.kind, Value.string n.text, .slice a n.kids.length cap] := (Blk.new w _ 24).later ((Below.refl (w.heap.size + 1) _).alloc (by simp) _) (by omega)
      have n0 := BN.cell 0 _ rfl
      have n1 := BN.cell 1 _ rfl
      have n2 := BN.cell 2 _ rfl
      clear hbW hbW2 how BN
      unfold N.val
      go_enter Tryz.func15, Tryz.ntmps15
      go_wp2_with fail
      generalize (w.alloc (Obj.cells #[Value.string n.kind, Value.string n.text, .slice a n.kids.length cap] 24)).alloc (Obj.cells #[.string n.kind] 9) = w2 at HBW HOW hsz2 n0 n1 n2 ⊢
      refine (below_any HR.out (by omega) w.heap.size _ w2 (by omega) (HK.out.under HBW.out)).mono ?_
      rintro e w3 ⟨kv, rfl, hb3, hkv⟩
      obtain ⟨ak, ck, rfl, hck, _⟩ := hkv.shape
      have hs3 := hb3.size
      have hlm : (subs n).length ≤ 1000000 := by
        have h1 := HBR.out
        exact subs_len HR.out (by omega)
      have HREL : Hid (RowRel (fun b => b < w.heap.size ∨ (w2.heap.size ≤ b ∧ b < w3.heap.size)) w w3.heap.size (.slice ak (subs n).length ck) (subs n) 9 1 (n.kind :: ((subs n).take 0).flatMap (evs stop.toList f)).length (((n.kind :: ((subs n).take 0).flatMap (evs stop.toList f))).map Value.string) (.slice (some ⟨w.heap.size + 1, 0, none⟩) 1 1) w3) := Lib.hid ⟨by simpa using owns_kept HOW.out hb3, hkv, fun g hg hx => by
        simp [Value.ownBlock] at hg
        omega, HBW.out.trans (hb3.mono (by omega)), Nat.le_refl _⟩
      have hok : ∀ b, (b < w.heap.size ∨ (w2.heap.size ≤ b ∧ b < w3.heap.size)) → b < w3.heap.size := fun b hb => by omega
      have HOK := Lib.hid hok
      have hT : ∀ j, (n.kind :: ((subs n).take j).flatMap (evs stop.toList f)).length ≤ 1600 := fun j => by
        have h1 := fm_take_le (evs stop.toList f) (subs n) j
        have h2 := HES.out
        simp only [List.length_cons, List.length_append, List.length_nil] at h2 ⊢
        omega
      have HT := Lib.hid hT
      clear hkv hb3 hok hT n0 n1 n2
      go_wp2_with fail
      go_loopw [19, 5] (fun vi out wr => ∃ j : Nat, j ≤ (subs n).length ∧ vi = .int .i64 j ∧ RowRel (fun b => b < w.heap.size ∨ (w2.heap.size ≤ b ∧ b < w3.heap.size)) w w3.heap.size (.slice ak (subs n).length ck) (subs n) 9 1 (n.kind :: ((subs n).take j).flatMap (evs stop.toList f)).length (((n.kind :: ((subs n).take j).flatMap (evs stop.toList f))).map Value.string) out wr) (fun vi _ _ => (subs n).length - (intOf vi).toNat)
      case atStart => exact ⟨0, Nat.zero_le _, rfl, HREL.out⟩
      case round =>
        obtain ⟨j, hj, rfl, hrl⟩ := hrel
        have hsr : w3.heap.size ≤ wr.heap.size := hrl.hi
        by_cases hjl : j < (subs n).length
        · have hjl' : (j : Int) < (((subs n).length : Nat) : Int) := by omega
          obtain ⟨x, hget⟩ : ∃ x, (subs n)[j]? = some x := ⟨_, List.getElem?_eq_getElem hjl⟩
          obtain ⟨aS, capS, hvS, _, hel⟩ := hrl.kids.shape
          obtain ⟨bb, oo, V, hae, hbb, c0, c1, c2, hV⟩ := hel j _ hget
          simp only [Value.slice.injEq] at hvS
          obtain ⟨rfl, _, rfl⟩ := hvS
          obtain rfl := hae
          obtain ⟨hxs, tx, bx, hRx⟩ := HBR.out x (List.mem_of_getElem? hget)
          have hstep := take_fm (evs stop.toList f) hget
          obtain ⟨ax, cx, rfl, _, _⟩ := hV.shape
          have hbx : Below wr.heap.size wr (wr.alloc (Obj.cells #[Value.string x.kind, Value.string x.text, Value.slice ax x.kids.length cx] 24)) := (Below.refl wr.heap.size wr).alloc (Nat.le_refl _) _
          have HRL := Lib.hid (hrl.later HOK.out hbx)
          have HV := Lib.hid ((hV.mono fun b hb => Nat.lt_of_lt_of_le (HOK.out b hb) hsr).later hbx)
          have HXX := Lib.hid (And.intro hRx (show x.size ≤ f by omega))
          have hstl : (n.kind :: ((subs n).take (j + 1)).flatMap (evs stop.toList f)) = (n.kind :: ((subs n).take j).flatMap (evs stop.toList f)) ++ evs stop.toList f x := by rw [hstep]; rfl
          have HSTEP := Lib.hid hstl
          have HTJ := Lib.hid (And.intro (HT.out j) (HT.out (j + 1)))
          have hxn : (evs stop.toList f x).length ≤ 1600 := by
            have h1 := (HTJ.out).2
            rw [hstl, List.length_append] at h1
            omega
          have HXN := Lib.hid hxn
          clear hV hbx hrl hRx hxs hstep hstl hel hget hxn
          go_wp2_with fail
          refine (HIH.out _ _ _ _ HXX.out.1 HXX.out.2 _ _ HV.out).mono ?_
          rintro e w5 ⟨v5, rfl, hb5, hown5⟩
          have HRL5 := Lib.hid (HRL.out.later HOK.out hb5)
          obtain ⟨a5, c5, rfl, hn5⟩ := row_news hown5
          have HN5 := Lib.hid hn5
          have H5Z := Lib.hid hown5.1
          clear hb5 hown5 hn5
          go_wp2_with (at_builtin; refine wpl_app_row rfl (.tmp 23) (.tmp 26) 34 rfl w.heap.size 9 i0 (.string ⟨#[]⟩) 1 16 underStrings HI0.out.1 HI0.out.2.1 HI0.out.2.2.1 HI0.out.2.2.2 rfl (by decide) _ _ _ rfl HRL5.out.own a5 _ c5 _ rfl H5Z.out HN5.out (ones_texts _) (by have h1 := HTJ.out.1; have h2 := HXN.out; unfold maxLen; omega) (by have h1 := HTJ.out.1; have h2 := HXN.out; omega) HRL5.out.low.size ?_; intro v6 w6 hown6 hg6 hw6; have HRL6 := Lib.hid (HRL5.out.app HOK.out hown6 hg6 hw6); clear hown6 hg6 hw6)
          go_roundw
          case rel => exact ⟨j + 1, by omega, by go_num, by rw [HSTEP.out]; rw [List.map_append, List.length_append]; exact HRL6.out⟩
          case measure => simp [intOf]; omega
        · have e : j = (subs n).length := by omega
          have htk : (subs n).take j = subs n := List.take_of_length_le (by omega)
          rw [htk] at hrl
          have HRL := Lib.hid (hrl.later HOK.out ((Below.refl wr.heap.size wr).alloc (Nat.le_refl _) (Obj.cells #[.string ⟨#[]⟩] 9)))
          have hTL := HT.out (subs n).length
          rw [List.take_of_length_le (Nat.le_refl _)] at hTL
          have HTL := Lib.hid hTL
          clear hrl htk hTL
          subst e
          go_wp2_with (at_builtin; refine wpl_app_row rfl (.tmp 29) (.tmp 30) 34 rfl w.heap.size 9 i0 (.string ⟨#[]⟩) 1 16 underStrings HI0.out.1 HI0.out.2.1 HI0.out.2.2.1 HI0.out.2.2.2 rfl (by decide) _ _ _ rfl HRL.out.own (some ⟨wr.heap.size, 0, none⟩) 1 1 [.string ⟨#[]⟩] rfl rfl (fun j u hj => ⟨_, rfl, World.news_of_block (heap_alloc_new wr (.cells #[.string ⟨#[]⟩] 9)) j u hj⟩) (fun u hu => by simp at hu; subst hu; rfl) (by have h1 := HTL.out; unfold maxLen; omega) (by have h1 := HTL.out; omega) HRL.out.low.size ?_; intro v6 w6 hown6 hg6 hw6; have HRL6 := Lib.hid (HRL.out.app HOK.out hown6 hg6 hw6); clear hown6 hg6 hw6)
          go_ret
          exact ⟨_, rfl, HRL6.out.low, (by simpa [List.map_append] using HRL6.out.own)⟩
end Go.Proofs.YtgadnenkkfkaaaaGreatFmt

/- What is proved here: the law FnExactEvents answers true, whatever the declaration. -/
namespace Go.Proofs.YtgadnenkkfkaaaaGreatFmt
open Go.RowKit Go.Shelf
set_option linter.unusedVariables false
set_option linter.unusedSimpArgs false
attribute [local go_sem ↓] Go.wp_at_zero Go.wp_at_succ
theorem TokTab.below {w w' : World} (h : TokTab w) (hb : Below w.heap.size w w') (h0 : 0 < w.heap.size) : TokTab w' := fun i t hi => by
  obtain ⟨x, hx, hc⟩ := h i t hi
  exact ⟨x, hx, (hb.cell (p := ⟨0, 61 + i, none⟩) h0).trans hc⟩
/-- A declaration of the shape lies in memory as some tree. -/
theorem rep_of_shape {n : N} {v : Value} {w : World} (hs : shapedB n = true) (hk : KidsAt (· < w.heap.size) w v n.kids) (hT : TokTab w) (h0 : 0 < w.heap.size) : ∃ (C : Nat → Nat → Value → Prop) (t b : Nat), Rep C n (Nd t b) := by
  obtain ⟨e, w', fr, ⟨t, b, _, _, hM⟩, _⟩ := build_any n v w hs hk hT h0 []
  exact ⟨_, t, b, hM.2⟩
theorem row_texts {w : World} {base n : Nat} {v : Value} {L : List ByteArray} (h : w.ownsRow base 9 1 v n (L.map Value.string)) : RowAt w 1 v n (fun i _ => Value.string (L.getD i ⟨#[]⟩)) := by
  have hn : L.length = n := by have := h.1; simpa using this
  refine (RowAt.of_owns h).congr fun i j hi hj => ?_
  have hj0 : j = 0 := by omega
  subst hj0
  have hi' : i < L.length := by omega
  simp [List.getD_eq_getElem?_getD, hi']

set_option maxHeartbeats 4000000 in
set_option maxRecDepth 100000 in
theorem law_events (n : N) (v : Value) (stop : ByteArray) (w : World) (hk : KidsAt (· < w.heap.size) w v n.kids) (hT : TokTab w) (h0 : 0 < w.heap.size) :
    Calls Tryz.prog 4 #[n.val v, .string stop] w fun e w' => e = .returned (.bool true) ∧ Below w.heap.size w w' := by
  obtain ⟨a, cap, rfl, hcap, _⟩ := hk.shape
  have BN : Blk (boxN w n (.slice a n.kids.length cap)) w.heap.size 24 #[Value.string n.kind, Value.string n.text, .slice a n.kids.length cap] := Blk.new w _ _
  have hbW : Below w.heap.size w (boxN w n (.slice a n.kids.length cap)) := (Below.refl w.heap.size w).alloc (Nat.le_refl _) _
  have hsw : w.heap.size + 1 ≤ (boxN w n (.slice a n.kids.length cap)).heap.size := by simp [boxN]
  have e0 := BN.cell 0 _ rfl
  have e1 := BN.cell 1 _ rfl
  have e2 := BN.cell 2 _ rfl
  have HBN := Lib.hid BN
  have HBW := Lib.hid hbW
  have HK := Lib.hid hk
  have HT := Lib.hid hT
  have H0 := Lib.hid h0
  clear BN hbW hk hT h0
  unfold N.val
  go_enter Tryz.func4, Tryz.ntmps4
  go_wp2_with fail
  simp only [boxN] at HBN HBW hsw e0 e1 e2
  generalize w.alloc (Obj.cells #[Value.string n.kind, Value.string n.text, .slice a n.kids.length cap] 24) = w1 at HBN HBW hsw e0 e1 e2 ⊢
  refine (fits1_any n a cap _).mono ?_
  rintro e w2 ⟨rfl, hb2⟩
  have hs2 := hb2.size
  have BN2 := HBN.out.later hb2 (by omega)
  have HBX := Lib.hid (HBW.out.trans (hb2.mono HBW.out.size))
  have d0 := BN2.cell 0 _ rfl
  have d1 := BN2.cell 1 _ rfl
  have d2 := BN2.cell 2 _ rfl
  have dn := BN2.lt
  have HBN2 := Lib.hid BN2
  clear BN2 hb2
  cases hf : fits1 n with
  | false =>
    clear hf
    go_wp2_with fail
    go_ret
    exact ⟨rfl, HBX.out⟩
  | true =>
    clear hf
    by_cases hst : stop.size ≤ 2147483647
    · have hst1 : (stop.size : Int) ≤ 2147483647 := by omega
      have hst2 : ¬ 2147483647 < (stop.size : Int) := by omega
      have hst3 : ¬ 2147483647 < stop.size := by omega
      go_wp2_with fail
      refine (shaped_any n _ _ (HK.out.later HBX.out)).mono ?_
      rintro e w3 ⟨rfl, hb3⟩
      have hs3 := hb3.size
      have BN3 := HBN2.out.later hb3 (by omega)
      have HB3 := Lib.hid (HBX.out.trans (hb3.mono HBX.out.size))
      have d0 := BN3.cell 0 _ rfl
      have d1 := BN3.cell 1 _ rfl
      have d2 := BN3.cell 2 _ rfl
      have dn := BN3.lt
      have HBN3 := Lib.hid BN3
      clear BN3 hb3
      cases hs : shapedB n with
      | false =>
        clear hs
        go_wp2_with fail
        go_ret
        exact ⟨rfl, HB3.out⟩
      | true =>
        have HS := Lib.hid hs
        have hk3 := HK.out.later HB3.out
        have hT3 := HT.out.below HB3.out H0.out
        have h03 : 0 < w3.heap.size := by omega
        obtain ⟨C, t, b, hR⟩ := rep_of_shape hs hk3 hT3 h03
        have hsz := shaped_small hs
        have hlen : (evs stop.toList 400 n).length ≤ 1600 := by
          have h1 := evs_le stop.toList 400 n
          have h2 := kinds_le 400 hR
          omega
        have HSZ := Lib.hid hsz
        have HR := Lib.hid hR
        have HDR : Hid (Below w3.heap.size w3 w3.drew) := Lib.hid (Below.refl _ _).drew
        have HK3 := Lib.hid (hk3.later HDR.out)
        have HT3 := Lib.hid (hT3.below HDR.out h03)
        have HBN4 := Lib.hid (HBN3.out.later HDR.out (by omega))
        have h03d : 0 < w3.drew.heap.size := h03
        have hwd : w.heap.size < w3.drew.heap.size := (show w.heap.size < w3.heap.size by omega)
        have HLEN := Lib.hid hlen
        clear hs hk3 hT3 hR hsz hlen
        go_wp2_with fail
        go_region_law (first
          | (refine step_call (by rfl) 14 _ _ (by rfl) #[.agg #[.string n.kind, .string n.text, .slice a n.kids.length cap], .string stop] (by first | rfl | (simp [Act.eval]; done) | (simp [Act.eval, Act.put]; done)) (enters_of Tryz.func14 (by kernel_rfl) rfl) (events_any n _ stop w3.drew HS.out HK3.out HT3.out h03d) ?_
             rintro e w5 ⟨r5, rfl, hown5, hb5⟩
             refine ⟨_, rfl, ?_⟩
             have h5z : w3.heap.size ≤ w5.heap.size := hb5.size
             have HI5 : Hid (w5.ownsRow w3.heap.size 9 1 r5 (evs stop.toList 400 n).length ((evs stop.toList 400 n).map Value.string) ∧ Below w3.drew.heap.size w3.drew w5) := Lib.hid ⟨hown5, hb5⟩
             have BN5 := HBN4.out.later hb5 hwd
             have d0 := BN5.cell 0 _ rfl
             have d1 := BN5.cell 1 _ rfl
             have d2 := BN5.cell 2 _ rfl
             have dn := BN5.lt
             clear BN5
             clear hown5 hb5)
          | (refine step_call (by rfl) 15 _ _ (by rfl) #[.agg #[.string n.kind, .string n.text, .slice a n.kids.length cap], .string stop] (by first | rfl | (simp [Act.eval]; done) | (simp [Act.eval, Act.put]; done)) (enters_of Tryz.func15 (by kernel_rfl) rfl) (specEvents_any stop 400 (Nat.le_refl _) HR.out HSZ.out _ w5 (HK3.out.later HI5.out.2)) ?_
             rintro e w6 ⟨r6, rfl, hb6, hown6⟩
             refine ⟨_, rfl, ?_⟩
             have HR1 : Hid (w6.ownsRow w3.heap.size 9 1 r5 (evs stop.toList 400 n).length ((evs stop.toList 400 n).map Value.string)) := Lib.hid (owns_kept HI5.out.1 hb6)
             have HR2 : Hid (w6.ownsRow w3.heap.size 9 1 r6 (evs stop.toList 400 n).length ((evs stop.toList 400 n).map Value.string)) := Lib.hid (own_mono hown6 h5z)
             have HB6 : Hid (Below w3.heap.size w3 w6) := Lib.hid (HDR.out.trans (HI5.out.2.trans (hb6.mono h5z)))
             clear hown6 hb6)
          | (refine step_call (by rfl) 15 _ _ (by rfl) #[.agg #[.string n.kind, .string n.text, .slice a n.kids.length cap], .string stop] (by first | rfl | (simp [Act.eval]; done) | (simp [Act.eval, Act.put]; done)) (enters_of Tryz.func15 (by kernel_rfl) rfl) (specEvents_any stop 400 (Nat.le_refl _) HR.out HSZ.out _ w3.drew HK3.out) ?_
             rintro e w5 ⟨r6, rfl, hb5, hown5⟩
             refine ⟨_, rfl, ?_⟩
             have h5z : w3.heap.size ≤ w5.heap.size := hb5.size
             have HS5 : Hid (w5.ownsRow w3.heap.size 9 1 r6 (evs stop.toList 400 n).length ((evs stop.toList 400 n).map Value.string) ∧ Below w3.drew.heap.size w3.drew w5) := Lib.hid ⟨hown5, hb5⟩
             have BN5 := HBN4.out.later hb5 hwd
             have d0 := BN5.cell 0 _ rfl
             have d1 := BN5.cell 1 _ rfl
             have d2 := BN5.cell 2 _ rfl
             have dn := BN5.lt
             clear BN5
             clear hown5 hb5)
          | (refine step_call (by rfl) 14 _ _ (by rfl) #[.agg #[.string n.kind, .string n.text, .slice a n.kids.length cap], .string stop] (by first | rfl | (simp [Act.eval]; done) | (simp [Act.eval, Act.put]; done)) (enters_of Tryz.func14 (by kernel_rfl) rfl) (events_any n _ stop w5 HS.out (HK3.out.later HS5.out.2) (HT3.out.below HS5.out.2 h03d) (by omega)) ?_
             rintro e w6 ⟨r5, rfl, hown6, hb6⟩
             refine ⟨_, rfl, ?_⟩
             have HR1 : Hid (w6.ownsRow w3.heap.size 9 1 r5 (evs stop.toList 400 n).length ((evs stop.toList 400 n).map Value.string)) := Lib.hid (own_mono hown6 h5z)
             have HR2 : Hid (w6.ownsRow w3.heap.size 9 1 r6 (evs stop.toList 400 n).length ((evs stop.toList 400 n).map Value.string)) := Lib.hid (owns_kept HS5.out.1 hb6)
             have HB6 : Hid (Below w3.heap.size w3 w6) := Lib.hid (HDR.out.trans (HS5.out.2.trans (hb6.mono h5z)))
             clear hown6 hb6)
          | (refine step_call (by rfl) 13 _ _ (by rfl) #[r5, r6] (by first | rfl | (simp [Act.eval]; done) | (simp [Act.eval, Act.put]; done)) (enters_of Tryz.func13 (by kernel_rfl) rfl) (eq_strings _ r5 r6 _ _ (by have := HLEN.out; omega) (row_texts HR1.out) (row_texts HR2.out)) ?_
             rintro e w7 ⟨rfl, q, rfl⟩
             refine ⟨_, rfl, ?_⟩))
        all_goals go_wp2_with fail
        all_goals go_ret
        all_goals exact ⟨rfl, (HB3.out.trans (HB6.out.mono HB3.out.size)).trans ⟨rfl, rfl, rfl, Nat.le_refl _, fun _ _ => rfl⟩⟩
    · have hst1 : ¬ (stop.size : Int) ≤ 2147483647 := by omega
      have hst2 : (2147483647 : Int) < (stop.size : Int) := by omega
      have hst3 : 2147483647 < stop.size := by omega
      go_wp2_with fail
      go_ret
      exact ⟨rfl, HBX.out⟩
end Go.Proofs.YtgadnenkkfkaaaaGreatFmt

/- What is proved here: the law FnEventsPair answers true, whatever the declaration. -/
namespace Go.Proofs.YtgadnenkkfkaaaaGreatFmt
open Go.RowKit Go.Shelf
set_option linter.unusedVariables false
set_option linter.unusedSimpArgs false
attribute [local go_sem ↓] Go.wp_at_zero Go.wp_at_succ

theorem opn_take_succ {L : List ByteArray} {j : Nat} {k : ByteArray} (h : L[j]? = some k) : opn (L.take (j + 1)) = opn (L.take j) + (if k.toList.isEmpty then -1 else 1) := by
  rw [List.take_add_one, h, opn_app]
  simp [opn]
theorem opn_le (L : List ByteArray) : opn L ≤ L.length ∧ -(L.length : Int) ≤ opn L := by
  induction L with
  | nil => simp [opn]
  | cons x r ih =>
    simp only [opn, List.length_cons]
    split <;> omega
set_option maxHeartbeats 4000000 in
set_option maxRecDepth 100000 in
theorem law_pair (n : N) (v : Value) (w : World) (hk : KidsAt (· < w.heap.size) w v n.kids) (hT : TokTab w) (h0 : 0 < w.heap.size) :
    Calls Tryz.prog 5 #[n.val v] w fun e w' => e = .returned (.bool true) ∧ Below w.heap.size w w' := by
  obtain ⟨a, cap, rfl, hcap, _⟩ := hk.shape
  have BN : Blk (boxN w n (.slice a n.kids.length cap)) w.heap.size 24 #[Value.string n.kind, Value.string n.text, .slice a n.kids.length cap] := Blk.new w _ _
  have hbW : Below w.heap.size w (boxN w n (.slice a n.kids.length cap)) := (Below.refl w.heap.size w).alloc (Nat.le_refl _) _
  have hsw : w.heap.size + 1 ≤ (boxN w n (.slice a n.kids.length cap)).heap.size := by simp [boxN]
  have e0 := BN.cell 0 _ rfl
  have e1 := BN.cell 1 _ rfl
  have e2 := BN.cell 2 _ rfl
  have HBN := Lib.hid BN
  have HBW := Lib.hid hbW
  have HK := Lib.hid hk
  have HT := Lib.hid hT
  have H0 := Lib.hid h0
  clear BN hbW hk hT h0
  unfold N.val
  go_enter Tryz.func5, Tryz.ntmps5
  go_wp2_with fail
  simp only [boxN] at HBN HBW hsw e0 e1 e2
  generalize w.alloc (Obj.cells #[Value.string n.kind, Value.string n.text, .slice a n.kids.length cap] 24) = w1 at HBN HBW hsw e0 e1 e2 ⊢
  refine (fits1_any n a cap _).mono ?_
  rintro e w2 ⟨rfl, hb2⟩
  have hs2 := hb2.size
  have BN2 := HBN.out.later hb2 (by omega)
  have HBX := Lib.hid (HBW.out.trans (hb2.mono HBW.out.size))
  have d0 := BN2.cell 0 _ rfl
  have d1 := BN2.cell 1 _ rfl
  have d2 := BN2.cell 2 _ rfl
  have dn := BN2.lt
  have HBN2 := Lib.hid BN2
  clear BN2 hb2
  cases hf : fits1 n with
  | false =>
    clear hf
    go_wp2_with fail
    go_ret
    exact ⟨rfl, HBX.out⟩
  | true =>
    clear hf
    go_wp2_with fail
    refine (shaped_any n _ _ (HK.out.later HBX.out)).mono ?_
    rintro e w3 ⟨rfl, hb3⟩
    have hs3 := hb3.size
    have BN3 := HBN2.out.later hb3 (by omega)
    have HB3 := Lib.hid (HBX.out.trans (hb3.mono HBX.out.size))
    have d0 := BN3.cell 0 _ rfl
    have d1 := BN3.cell 1 _ rfl
    have d2 := BN3.cell 2 _ rfl
    have dn := BN3.lt
    have HBN3 := Lib.hid BN3
    clear BN3 hb3
    cases hs : shapedB n with
    | false =>
      clear hs
      go_wp2_with fail
      go_ret
      exact ⟨rfl, HB3.out⟩
    | true =>
      have HS := Lib.hid hs
      have hk3 := HK.out.later HB3.out
      have hT3 := HT.out.below HB3.out H0.out
      have h03 : 0 < w3.heap.size := by omega
      obtain ⟨C, t, b, hR⟩ := rep_of_shape hs hk3 hT3 h03
      have hsz := shaped_small hs
      have hev := evs_pair 400 hR hsz
      have hel := evs_len 400 hR
      have hkl := kinds_le 400 hR
      have hlen : (evs [] 400 n).length ≤ 1600 := by omega
      have hk1 : (kinds 400 n).length ≤ 800 := by omega
      have HEV := Lib.hid hev
      have HEL := Lib.hid hel
      have HLEN := Lib.hid (And.intro hlen hk1)
      have HK3 := Lib.hid hk3
      have HT3 := Lib.hid hT3
      clear hs hk3 hT3 hR hsz hlen hev hel hkl hk1
      go_wp2_with fail
      refine (events_any n _ ⟨#[]⟩ w3 HS.out HK3.out HT3.out h03).mono ?_
      rintro e w5 ⟨r5, rfl, hown5, hb5⟩
      rw [show (⟨#[]⟩ : ByteArray).toList = [] by rw [ByteArray.toList_eq]] at hown5
      have hs5 := hb5.size
      have BN5 := HBN3.out.later hb5 (by omega)
      have d0 := BN5.cell 0 _ rfl
      have d1 := BN5.cell 1 _ rfl
      have d2 := BN5.cell 2 _ rfl
      have dn := BN5.lt
      have HB5 := Lib.hid hb5
      have hrow := row_texts hown5
      obtain ⟨ar, cr, rfl, hel5⟩ := hrow
      have HEL5 := Lib.hid hel5
      generalize hL : evs [] 400 n = L at HEV HEL HLEN HEL5 ⊢
      have HLL := Lib.hid hL
      clear hL BN5 hb5 hown5 hel5
      have hln : L.length ≤ 1600 := HLEN.out.1
      go_wp2_with fail
      go_loopw [3, 17] (fun op i wr => ∃ j : Nat, j ≤ L.length ∧ i = .int .i64 j ∧ op = .int .i64 (opn (L.take j)) ∧ wr = w5) (fun _ i _ => L.length - (intOf i).toNat)
      case atStart => exact ⟨0, Nat.zero_le _, rfl, by simp [opn], rfl⟩
      case round =>
        obtain ⟨j, hj, rfl, rfl, rfl⟩ := hrel
        have hb1 := opn_le (L.take j)
        have hb2 : (L.take j).length ≤ 1600 := by simp; omega
        by_cases hjl : j < L.length
        · obtain ⟨bb, oo, rfl, hc⟩ := HEL5.out j hjl
          have hget : L[j]? = some L[j] := List.getElem?_eq_getElem hjl
          have c0 : wr.cell? ⟨bb, oo + j, none⟩ = some (.string L[j]) := by
            have h := hc 0 (by omega)
            simpa [List.getD_eq_getElem?_getD, hjl] using h
          have hst := opn_take_succ hget
          have HST := Lib.hid hst
          have hnx : j + 1 < L.length → 1 ≤ opn (L.take (j + 1)) := fun h => HEV.out.2.2 (j + 1) (by omega) h
          have hfin : j + 1 = L.length → opn (L.take (j + 1)) = 0 := fun h => by rw [h, List.take_of_length_le (Nat.le_refl _)]; exact HEV.out.1
          have HNX := Lib.hid (And.intro hnx hfin)
          clear hst hnx hfin hget hc
          generalize L[j] = k at c0 HST
          generalize opn (L.take j) = z at hb1 HST ⊢
          cases hke : k.toList.isEmpty with
          | true =>
            have hnew : opn (L.take (j + 1)) = z - 1 := by rw [HST.out, hke]; simp; omega
            have HNW := Lib.hid hnew
            by_cases hl1 : j + 1 < L.length
            · have hz := HNX.out.1 hl1
              rw [hnew] at hz
              clear hnew
              go_wp2_with fail
              go_roundw
              case rel => exact ⟨j + 1, by omega, by go_num, by rw [HNW.out], trivial⟩
              case measure => simp [intOf]; omega
            · have hz := HNX.out.2 (by omega)
              rw [hnew] at hz
              clear hnew
              obtain rfl : z = 1 := by omega
              have hjb : ((j : Int) != (L.length : Int) - 1) = false := by simp; omega
              clear hz
              go_wp2_with fail
              go_roundw
              case rel => exact ⟨j + 1, by omega, by go_num, by rw [HNW.out]; rfl, trivial⟩
              case measure => simp [intOf]; omega
          | false =>
            have hnew : opn (L.take (j + 1)) = z + 1 := by rw [HST.out, hke]; simp
            have HNW := Lib.hid hnew
            by_cases hl1 : j + 1 < L.length
            · have hz := HNX.out.1 hl1
              rw [hnew] at hz
              clear hnew
              go_wp2_with fail
              go_roundw
              case rel => exact ⟨j + 1, by omega, by go_num, by rw [HNW.out], trivial⟩
              case measure => simp [intOf]; omega
            · have hz := HNX.out.2 (by omega)
              rw [hnew] at hz
              clear hnew
              obtain rfl : z = -1 := by omega
              have hjb : ((j : Int) != (L.length : Int) - 1) = false := by simp; omega
              clear hz
              go_wp2_with fail
              go_roundw
              case rel => exact ⟨j + 1, by omega, by go_num, by rw [HNW.out]; rfl, trivial⟩
              case measure => simp [intOf]; omega
        · have hje : j = L.length := by omega
          subst hje
          have hz : opn (L.take L.length) = 0 := by rw [List.take_of_length_le (Nat.le_refl _)]; exact HEV.out.1
          rw [hz]
          have hpos : 0 < L.length := HEV.out.2.1
          have hposi : (0 : Int) < (L.length : Int) := by omega
          have hk5 := HK3.out.later HB5.out
          have hT5 := HT3.out.below HB5.out h03
          have HK5 := Lib.hid (And.intro hk5 hT5)
          clear hz hb1 hb2 hk5 hT5
          go_wp2_with fail
          refine (yields_any n _ 1000 wr HS.out HK5.out.1 HK5.out.2 (by omega)).mono ?_
          rintro e w6 ⟨v6, L6, rfl, ⟨hpre, hor, hle, hne⟩, hown6, hb6⟩
          have h6 : L6.length = (kinds 400 n).length := by
            have h1 := hpre.length_le
            have h2 := HLEN.out.2
            rcases hor with h | h
            · rw [h]
            · omega
          obtain ⟨ad, c6, rfl, _, _⟩ := owns_form hown6
          have hl6 : L.length = 2 * L6.length := by rw [h6]; exact HEL.out
          have hq : ((L.length : Int) == 2 * (L6.length : Int)) = true := by simp; omega
          have hq2 : (L6.length : Int) ≤ 800 := by have := HLEN.out.2; omega
          have HB6 := Lib.hid (HB3.out.trans ((HB5.out.trans (hb6.mono hs5)).mono HB3.out.size))
          clear hpre hor hle hne hown6 hb6 h6 hl6
          go_wp2_with fail
          go_ret
          exact ⟨rfl, HB6.out⟩
end Go.Proofs.YtgadnenkkfkaaaaGreatFmt

/- What is proved here: FnEventsPairToldSaid: the law answers true for every input, and the input reads as it did: the told and tied card. Conditions: the listed tables lie as the program's text lays them (the card ties that). -/
namespace Go.Proofs.YtgadnenkkfkaaaaGreatFmt
open Go.ChangeShapes Go.WideShapes Go.ChangeAt Go.RowKit
open Go.ChangeMaps (open_string shut_string)
open Go.Extern.Stop Go.Stop Go.Extern
set_option linter.unusedVariables false

theorem laid_met (os : Os) (args : Array Value) : laidMetH Tryz.prog Rows.fnEventsPairRow.laid ((World.laidAll Tryz.prog os Rows.fnEventsPairRow.laid).forCall (fun _ _ => 0) ⟨#[], args, []⟩).memory := by
  rw [MakeChecks.laidMetH_plain _ _ _ (by kernel_rfl)]
  exact laidMet_laidAll _ (by kernel_rfl) (by kernel_rfl)
set_option maxRecDepth 100000 in
theorem lifted (os : Os) (started : os.Started) (H : Type) (enc : TypeId × Value → H) :
    ReturnsInTold none {} Tryz.checked os 5 .any Input.okWide ((OpenSpec.ofChange Rows.fnEventsPairSpec).preRow enc Tryz.prog Tryz.f5 [] false Rows.fnEventsPairRow.laid) (fun F => ((OpenSpec.ofChange Rows.fnEventsPairSpec).at F).post enc Tryz.prog Tryz.f5 false true false false) (aloneAtReturn Tryz.prog) nothingAlways := by
  refine returnsInTold_of_row (C := Tryz.checked) (s := OpenSpec.ofChange Rows.fnEventsPairSpec) (by kernel_rfl) own started (by kernel_rfl) Tryz.func5
    (fun F => ⟨World.laidAll Tryz.prog os Rows.fnEventsPairRow.laid, F.over fun _ _ => 0, ⟨#[], #[.agg #[.string ⟨#[]⟩, .string ⟨#[]⟩, .slice none 0 0]], []⟩, World.laidAll_os _ _ _, World.shaped_of_ZipB (by kernel_rfl) (by kernel_rfl), rfl, (Input.okWide_of_okWideB (by kernel_rfl)).2,
      OpenSpec.preRow_of_B rfl 8 (by kernel_rfl) (by kernel_rfl) (laid_met os _), by
        simp only [Assume.holds]
        exact ⟨by simp, by simp, fun _ => F.over_modest Modest.zero, by simp, by simp⟩, F.over_answers _⟩) ?_
  intro F W base args ds gs before _ hF hval0 hW _ _ _ hL _
  have hval : ∀ (j : Nat) t v, Tryz.f5.params[j]? = some t → args[j]? = some v → Value.okWide Tryz.prog W .any base t v := hval0
  have hW' := hW
  obtain ⟨p, q, hA0, hV, rfl, hfz, hnd⟩ := hW
  have hA : DataW.TrodAll enc Tryz.prog W 0 (fun _ => true) true Tryz.f5.params.toList args.toList ds p := hA0
  have hlt := hA.lt
  rw [Tryz.params5] at hA hval
  obtain ⟨fs, f0, f1, f2, hu, _⟩ := underNode
  have hT : TokTab W ∧ 0 < W.heap.size := by
    have hL' := hL
    rw [MakeChecks.laidMetH_plain _ _ _ (by kernel_rfl)] at hL'
    exact toks_of_reads (Lib.laidMet.reads hL' (List.Mem.tail _ (List.Mem.tail _ (List.Mem.tail _ (List.Mem.head _)))))
  obtain ⟨v0, d0, hargs, rfl, h0⟩ := trodAll_one hA
  subst hargs
  obtain ⟨c0, rfl, hsz⟩ := okWide_struct hu (hval 0 24 v0 rfl rfl)
  have h0' := h0
  obtain ⟨fuel, h0⟩ := h0
  obtain ⟨n, v, hc, hk⟩ := open_node fuel h0
  have ec : c0 = #[.string n.kind, .string n.text, v] := Array.ext' hc
  subst ec
  have hlt0 : ∀ x ∈ p, x.block < W.heap.size := fun x hx => hlt x hx
  obtain ⟨g, hgs⟩ : ∃ g, gs = [g] := by
    obtain ⟨_, _, _, _, d, _, e, _⟩ := trodVars_one hV
    exact ⟨d, e⟩
  subst hgs
  refine (law_pair n v W hk hT.1 hT.2).mono fun e W' ⟨he, hb⟩ => ?_
  subst he
  have hV' := Below.trodVars laidOut hb (by kernel_rfl) hV
  exact ⟨_, rfl, _, _, _, [], _, _, hW', trodAll_mk1 (shut_bool (by kernel_rfl) _), trodAll_mk1 (Below.trod laidOut (by kernel_rfl) (of_decide_eq_true (by kernel_rfl)) h0' hb hlt0), hV', hb.frame _, fun h => by cases h⟩
theorem told_holds : Rows.FnEventsPairToldSaid :=
  Claim7.holds_of_told_tied_any_at .later 5 Tryz.f5 "fmt.Sprintf, its operands' methods called" [] [] _ _ _ _ _ (by kernel_rfl) rfl rfl rfl laidOut (by kernel_rfl) rfl ⟨rfl, rfl, rfl, rfl, rfl, rfl, rfl⟩ rfl rfl (by kernel_rfl) (by kernel_rfl) Tryz.func5 (by kernel_rfl)
    (of_decide_eq_true (by kernel_rfl)) (by unfold Func.isWrapper; first | (rw [if_pos (by decide +kernel)]; kernel_rfl) | (rw [if_neg (by decide +kernel)]; exact ⟨rfl, rfl⟩)) stops.symm rfl stopKnobs.symm (by kernel_rfl)
    (by kernel_rfl) (by kernel_rfl) (by kernel_rfl) (by kernel_rfl) (by kernel_rfl) (by kernel_rfl) (by kernel_rfl) (by kernel_rfl) (by kernel_rfl) rfl (by kernel_rfl) rfl rfl
    rfl rfl
    rfl (by kernel_rfl) (by kernel_rfl) (by kernel_rfl) (by decide) (by kernel_rfl) fnEventsPair_row_tie
    (OpenClaim.moreEntering_of (by kernel_rfl) (by kernel_rfl) (by kernel_rfl) (by kernel_rfl) (by kernel_rfl) (by kernel_rfl) (by kernel_rfl) (by kernel_rfl) (by kernel_rfl) (by kernel_rfl))
    ⟨_, WideRow.started_initial, quiet _⟩
    (fun os started _ H enc _ => lifted os started H enc)
#print axioms told_holds
end Go.Proofs.YtgadnenkkfkaaaaGreatFmt

