/- What is proved here: FnExactYieldsToldSaid: Yields answers as AllKinds cut at the number asked, for every shaped declaration, whatever the input. Conditions: the listed tables lie as the program text lays them (the card ties that).. Conditions: none beyond those of the theorem itself. -/
import Derived.Test.YtpifflakohlglaaGreatFmtMk
import Derived.Test.YtpifflakohlglaaGreatFmtMa
import Derived.Test.YtpifflakohlglaaGreatFmtMr
import Derived.Test.YtpifflakohlglaaGreatFmtMl
set_option linter.all false
set_option linter.unusedVariables false
set_option linter.unusedSimpArgs false
/- What is proved here: spec.AllKinds of a declaration. -/
namespace Go.Proofs.YtpifflakohlglaaGreatFmt
open Go.RowKit Go.Shelf
set_option linter.unusedVariables false
set_option linter.unusedSimpArgs false

set_option maxHeartbeats 8000000 in
set_option maxRecDepth 100000 in
theorem allKinds_any (f : Nat) (hf : f ≤ 400) : ∀ {C : Nat → Nat → Value → Prop} {n : N} {t b : Nat}, Rep C n (Nd t b) → n.size ≤ f → ∀ (v : Value) (w : World), KidsAt (· < w.heap.size) w v n.kids →
    Calls Tryz.prog 11 #[n.val v] w (TextsPost w (kinds f n)) := by
  induction f with
  | zero => intro C n t b hR hn; have := N.size_eq n; omega
  | succ f ih =>
    intro C n t b hR hn v w hk
    have hbr := hR.below_rep
    have hkl := kinds_le (f + 1) hR
    obtain ⟨i0, hi, hz0, hz1, hz2⟩ := info_parts infoString
    have HI0 := Lib.hid (And.intro hi (And.intro hz0 (And.intro hz1 hz2)))
    obtain ⟨a, cap, rfl, hcap, _⟩ := hk.shape
    have HIH := Lib.hid (fun (C : Nat → Nat → Value → Prop) (n : N) (t b : Nat) (hR : Rep C n (Nd t b)) => @ih (by omega) C n t b hR)
    have HR := Lib.hid hR
    have HK := Lib.hid hk
    have HBR := Lib.hid hbr
    rw [kinds_cons] at hkl ⊢
    have HES := Lib.hid (show (n.kind :: (subs n).flatMap (kinds f)).length ≤ 4 * 400 by omega)
    have hbW := (Below.refl w.heap.size w).alloc (Nat.le_refl _) (Obj.cells #[Value.string n.kind, Value.string n.text, .slice a n.kids.length cap] 24)
    have hbW2 := hbW.alloc (by simp) (Obj.cells #[.string n.kind] 9)
    have how := own_new1 (w.alloc (Obj.cells #[Value.string n.kind, Value.string n.text, .slice a n.kids.length cap] 24)) (.string n.kind) 9 9 rfl
    have HBW := Lib.hid hbW2
    have HOW := Lib.hid (own_mono how (by simp : w.heap.size ≤ _))
    have hsz2 : ((w.alloc (Obj.cells #[Value.string n.kind, Value.string n.text, .slice a n.kids.length cap] 24)).alloc (Obj.cells #[.string n.kind] 9)).heap.size = w.heap.size + 2 := by simp
    have BN : Blk ((w.alloc (Obj.cells #[Value.string n.kind, Value.string n.text, .slice a n.kids.length cap] 24)).alloc (Obj.cells #[.string n.kind] 9)) w.heap.size 24 #[Value.string n.kind, Value.string n.text, .slice a n.kids.length cap] := (Blk.new w _ 24).later ((Below.refl (w.heap.size + 1) _).alloc (by simp) _) (by omega)
    have n0 := BN.cell 0 _ rfl
    have n1 := BN.cell 1 _ rfl
    have n2 := BN.cell 2 _ rfl
    clear hi hz0 hz1 hz2 ih hR hk hbr hkl hbW hbW2 how BN
    unfold N.val
    go_enter Tryz.func11, Tryz.ntmps11
    go_wp2_with fail
    generalize (w.alloc (Obj.cells #[Value.string n.kind, Value.string n.text, .slice a n.kids.length cap] 24)).alloc (Obj.cells #[.string n.kind] 9) = w2 at HBW HOW hsz2 n0 n1 n2 ⊢
    refine (below_any HR.out (by omega) w.heap.size _ w2 (by omega) (HK.out.under HBW.out)).mono ?_
    rintro e w3 ⟨kv, rfl, hb3, hkv⟩
    obtain ⟨ak, ck, rfl, hck, _⟩ := hkv.shape
    have hs3 := hb3.size
    have hlm : (subs n).length ≤ 1000000 := subs_len HR.out (by omega)
    have HREL : Hid (RowRel (fun b => b < w.heap.size ∨ (w2.heap.size ≤ b ∧ b < w3.heap.size)) w w3.heap.size (.slice ak (subs n).length ck) (subs n) 9 1 (n.kind :: ((subs n).take 0).flatMap (kinds f)).length ((n.kind :: ((subs n).take 0).flatMap (kinds f)).map Value.string) (.slice (some ⟨w.heap.size + 1, 0, none⟩) 1 1) w3) := Lib.hid ⟨by simpa using owns_kept HOW.out hb3, hkv, fun g hg hx => by
      simp [Value.ownBlock] at hg
      omega, HBW.out.trans (hb3.mono (by omega)), Nat.le_refl _⟩
    have hok : ∀ b, (b < w.heap.size ∨ (w2.heap.size ≤ b ∧ b < w3.heap.size)) → b < w3.heap.size := fun b hb => by omega
    have HOK := Lib.hid hok
    have hT : ∀ j, (n.kind :: ((subs n).take j).flatMap (kinds f)).length ≤ 1600 := fun j => by
      have h1 := fm_take_le (kinds f) (subs n) j
      have h2 := HES.out
      simp only [List.length_cons] at h2 ⊢
      omega
    have HT := Lib.hid hT
    clear hkv hb3 hok hT n0 n1 n2
    go_wp2_with fail
    go_loopw [12, 3] (fun vi out wr => ∃ j : Nat, j ≤ (subs n).length ∧ vi = .int .i64 j ∧ RowRel (fun b => b < w.heap.size ∨ (w2.heap.size ≤ b ∧ b < w3.heap.size)) w w3.heap.size (.slice ak (subs n).length ck) (subs n) 9 1 (n.kind :: ((subs n).take j).flatMap (kinds f)).length ((n.kind :: ((subs n).take j).flatMap (kinds f)).map Value.string) out wr) (fun vi _ _ => (subs n).length - (intOf vi).toNat)
    case atStart => exact ⟨0, Nat.zero_le _, rfl, HREL.out⟩
    case round =>
      obtain ⟨j, hj, rfl, hrl⟩ := hrel
      have hsr : w3.heap.size ≤ wr.heap.size := hrl.hi
      by_cases hjl : j < (subs n).length
      · have hjl' : (j : Int) < (((subs n).length : Nat) : Int) := by omega
        obtain ⟨x, hget⟩ : ∃ x, (subs n)[j]? = some x := ⟨_, List.getElem?_eq_getElem hjl⟩
        obtain ⟨aS, capS, hvS, _, hel⟩ := hrl.kids.shape
        obtain ⟨bb, oo, V, hae, hbb, c0, c1, c2, hV⟩ := hel j _ hget
        simp only [Value.slice.injEq] at hvS
        obtain ⟨rfl, _, rfl⟩ := hvS
        obtain rfl := hae
        obtain ⟨hxs, tx, bx, hRx⟩ := HBR.out x (List.mem_of_getElem? hget)
        have hstep := take_fm (kinds f) hget
        obtain ⟨ax, cx, rfl, _, _⟩ := hV.shape
        have hbx : Below wr.heap.size wr (wr.alloc (Obj.cells #[Value.string x.kind, Value.string x.text, Value.slice ax x.kids.length cx] 24)) := (Below.refl wr.heap.size wr).alloc (Nat.le_refl _) _
        have HRL := Lib.hid (hrl.later HOK.out hbx)
        have HV := Lib.hid ((hV.mono fun b hb => Nat.lt_of_lt_of_le (HOK.out b hb) hsr).later hbx)
        have HXX := Lib.hid (And.intro hRx (show x.size ≤ f by omega))
        have hstl : (n.kind :: ((subs n).take (j + 1)).flatMap (kinds f)) = (n.kind :: ((subs n).take j).flatMap (kinds f)) ++ kinds f x := by rw [hstep]; rfl
        have HSTEP := Lib.hid hstl
        have HTJ := Lib.hid (And.intro (HT.out j) (HT.out (j + 1)))
        have hxn : (kinds f x).length ≤ 1600 := by
          have h1 := (HTJ.out).2
          rw [hstl, List.length_append] at h1
          omega
        have HXN := Lib.hid hxn
        clear hV hbx hrl hRx hxs hstep hstl hel hget hxn
        go_wp2_with fail
        refine (HIH.out _ _ _ _ HXX.out.1 HXX.out.2 _ _ HV.out).mono ?_
        rintro e w5 ⟨v5, rfl, hb5, hown5⟩
        have HRL5 := Lib.hid (HRL.out.later HOK.out hb5)
        obtain ⟨a5, c5, rfl, hn5⟩ := row_news hown5
        have HN5 := Lib.hid hn5
        have H5Z := Lib.hid hown5.1
        clear hb5 hown5 hn5
        go_wp2_with (at_builtin; refine wpl_app_row rfl (.tmp 16) (.tmp 18) 33 rfl w.heap.size 9 i0 (.string ⟨#[]⟩) 1 16 underStrings HI0.out.1 HI0.out.2.1 HI0.out.2.2.1 HI0.out.2.2.2 rfl (by decide) _ _ _ rfl HRL5.out.own a5 _ c5 _ rfl H5Z.out HN5.out (ones_texts _) (by have h1 := HTJ.out.1; have h2 := HXN.out; unfold maxLen; omega) (by have h1 := HTJ.out.1; have h2 := HXN.out; omega) HRL5.out.low.size ?_; intro v6 w6 hown6 hg6 hw6; have HRL6 := Lib.hid (HRL5.out.app HOK.out hown6 hg6 hw6); clear hown6 hg6 hw6)
        go_roundw
        case rel => exact ⟨j + 1, by omega, by go_num, by rw [HSTEP.out, List.map_append, List.length_append]; exact HRL6.out⟩
        case measure => simp [intOf]; omega
      · have e : j = (subs n).length := by omega
        have htk : (subs n).take j = subs n := List.take_of_length_le (by omega)
        rw [htk] at hrl
        have HRL := Lib.hid hrl
        clear hrl htk
        subst e
        go_wp2_with fail
        go_ret
        exact ⟨_, rfl, HRL.out.low, HRL.out.own⟩
end Go.Proofs.YtpifflakohlglaaGreatFmt

/- What is proved here: spec.Least: at least one, of so many. -/
namespace Go.Proofs.YtpifflakohlglaaGreatFmt
open Go.RowKit
set_option linter.unusedVariables false
set_option linter.unusedSimpArgs false
set_option maxRecDepth 100000 in
theorem least_any (most : Int) (K k : Nat) (w : World) (hk : (k : Int) = max 1 (min most K)) : Calls Tryz.prog 14 #[.int .i64 most, .int .i64 K] w fun e w' => e = .returned (.int .i64 k) ∧ w' = w := by
  have HK := Lib.hid hk
  clear hk
  go_enter Tryz.func14, Tryz.ntmps14
  go_wp2_with fail
  all_goals go_ret
  all_goals
    refine ⟨?_, rfl⟩
    have hk := HK.out
    exact congrArg (fun x : Int => Ending.returned (Value.int IntKind.i64 x)) (by omega)
end Go.Proofs.YtpifflakohlglaaGreatFmt

/- What is proved here: the law FnExactYields answers true, whatever the declaration and the number. -/
namespace Go.Proofs.YtpifflakohlglaaGreatFmt
open Go.RowKit Go.Shelf
set_option linter.unusedVariables false
set_option linter.unusedSimpArgs false
attribute [local go_sem ↓] Go.wp_at_zero Go.wp_at_succ

theorem RowAt.cut {w : World} {k n m c : Nat} {a : Option Addr} {F : Nat → Nat → Value} (h : RowAt w k (.slice a n c) n F) (hm : m ≤ n) : RowAt w k (.slice a m c) m F := by
  obtain ⟨a', c', e, h2⟩ := h
  simp only [Value.slice.injEq] at e
  obtain ⟨rfl, _, rfl⟩ := e
  exact ⟨a, c, rfl, fun i hi => h2 i (by omega)⟩
theorem row_cut {L M : List ByteArray} {most : Int} {K k : Nat} {w : World} {v : Value} (h : L <+: M ∧ (L = M ∨ most ≤ (L.length : Int)) ∧ L.length ≤ max 1 most.toNat ∧ L ≠ []) (hK : K = M.length) (hk : (k : Int) = max 1 (min most K))
    (hr : RowAt w 1 v L.length (fun i _ => Value.string (L.getD i ⟨#[]⟩))) : RowAt w 1 v k (fun i _ => Value.string (M.getD i ⟨#[]⟩)) := by
  obtain ⟨h1, h2, h3, h4⟩ := h
  have h5 := h1.length_le
  have h6 := List.length_pos_iff.2 h4
  have hl : L.length = k := by
    rcases h2 with h | h
    · have h7 : L.length = M.length := by rw [h]
      omega
    · omega
  have ht : L = M.take L.length := List.prefix_iff_eq_take.1 h1
  rw [hl] at hr ht
  refine hr.congr fun i j hi hj => ?_
  rw [ht]
  simp only [List.getD_eq_getElem?_getD, List.getElem?_take, if_pos hi]
set_option maxHeartbeats 4000000 in
set_option maxRecDepth 100000 in
theorem law_yields (n : N) (v : Value) (most : Int) (w : World) (hk : KidsAt (· < w.heap.size) w v n.kids) (hT : TokTab w) (h0 : 0 < w.heap.size) :
    Calls Tryz.prog 4 #[n.val v, .int .i64 most] w fun e w' => e = .returned (.bool true) ∧ Below w.heap.size w w' := by
  obtain ⟨a, cap, rfl, hcap, _⟩ := hk.shape
  have BN : Blk (boxN w n (.slice a n.kids.length cap)) w.heap.size 24 #[Value.string n.kind, Value.string n.text, .slice a n.kids.length cap] := Blk.new w _ _
  have hbW : Below w.heap.size w (boxN w n (.slice a n.kids.length cap)) := (Below.refl w.heap.size w).alloc (Nat.le_refl _) _
  have hsw : w.heap.size + 1 ≤ (boxN w n (.slice a n.kids.length cap)).heap.size := by simp [boxN]
  have e0 := BN.cell 0 _ rfl
  have e1 := BN.cell 1 _ rfl
  have e2 := BN.cell 2 _ rfl
  have HBN := Lib.hid BN
  have HBW := Lib.hid hbW
  have HK := Lib.hid hk
  have HT := Lib.hid hT
  have H0 := Lib.hid h0
  clear BN hbW hk hT h0
  unfold N.val
  go_enter Tryz.func4, Tryz.ntmps4
  go_wp2_with fail
  simp only [boxN] at HBN HBW hsw e0 e1 e2
  generalize w.alloc (Obj.cells #[Value.string n.kind, Value.string n.text, .slice a n.kids.length cap] 24) = w1 at HBN HBW hsw e0 e1 e2 ⊢
  refine (fits1_any n a cap _).mono ?_
  rintro e w2 ⟨rfl, hb2⟩
  have hs2 := hb2.size
  have BN2 := HBN.out.later hb2 (by omega)
  have HBX := Lib.hid (HBW.out.trans (hb2.mono HBW.out.size))
  have d0 := BN2.cell 0 _ rfl
  have d1 := BN2.cell 1 _ rfl
  have d2 := BN2.cell 2 _ rfl
  have dn := BN2.lt
  have HBN2 := Lib.hid BN2
  clear BN2 hb2
  cases hf : fits1 n with
  | false =>
    clear hf
    go_wp2_with fail
    go_ret
    exact ⟨rfl, HBX.out⟩
  | true =>
    clear hf
    go_wp2_with fail
    refine (shaped_any n _ _ (HK.out.later HBX.out)).mono ?_
    rintro e w3 ⟨rfl, hb3⟩
    have hs3 := hb3.size
    have BN3 := HBN2.out.later hb3 (by omega)
    have HB3 := Lib.hid (HBX.out.trans (hb3.mono HBX.out.size))
    have d0 := BN3.cell 0 _ rfl
    have d1 := BN3.cell 1 _ rfl
    have d2 := BN3.cell 2 _ rfl
    have dn := BN3.lt
    have HBN3 := Lib.hid BN3
    clear BN3 hb3
    cases hs : shapedB n with
    | false =>
      clear hs
      go_wp2_with fail
      go_ret
      exact ⟨rfl, HB3.out⟩
    | true =>
      have HS := Lib.hid hs
      have hk3 := HK.out.later HB3.out
      have hT3 := HT.out.below HB3.out H0.out
      have h03 : 0 < w3.heap.size := by omega
      obtain ⟨C, t, b, hR⟩ := rep_of_shape hs hk3 hT3 h03
      have hsz := shaped_small hs
      have hkl := kinds_le 400 hR
      have hK0 : (kinds 400 n).length ≤ 800 := by omega
      have hK1 : 1 ≤ (kinds 400 n).length := by simp [kinds]
      have HSZ := Lib.hid hsz
      have HR := Lib.hid hR
      have HK3 := Lib.hid hk3
      have HT3 := Lib.hid hT3
      clear hs hk3 hT3 hR hsz hkl
      go_wp2_with fail
      refine (allKinds_any 400 (Nat.le_refl _) HR.out HSZ.out _ w3 HK3.out).mono ?_
      rintro e w5 ⟨r5, rfl, hb5, hown5⟩
      have hs5 := hb5.size
      have BN5 := HBN3.out.later hb5 (by omega)
      have HB5 := Lib.hid (HB3.out.trans (hb5.mono HB3.out.size))
      have hk5 := HK3.out.later hb5
      have hT5 := HT3.out.below hb5 h03
      obtain ⟨aw, cw, hrr, hcw, _⟩ := owns_form hown5
      subst hrr
      have hrow := row_texts hown5
      obtain ⟨K, hKK⟩ : ∃ K, (kinds 400 n).length = K := ⟨_, rfl⟩
      rw [hKK] at hrow hcw hK0 hK1 ⊢
      obtain ⟨k, hk⟩ : ∃ k : Nat, (k : Int) = max 1 (min most K) := ⟨(max 1 (min most K)).toNat, by omega⟩
      have hk1 : 1 ≤ k := by omega
      have hkK : k ≤ K := by omega
      have hkc : k ≤ cw := by omega
      have HKV := Lib.hid hk
      clear hk
      have HRW := Lib.hid (hrow.cut hkK)
      have HK5 := Lib.hid hk5
      have HT5 := Lib.hid hT5
      have d0 := BN5.cell 0 _ rfl
      have d1 := BN5.cell 1 _ rfl
      have d2 := BN5.cell 2 _ rfl
      have dn := BN5.lt
      clear BN5 hb5 hown5 hrow hk5 hT5
      go_wp2_with fail
      refine (yields_any n _ most w5 HS.out HK5.out HT5.out (by omega)).mono ?_
      rintro e w6 ⟨r6, L6, rfl, hL6, hown6, hb6⟩
      have hr6 := row_cut hL6 hKK.symm HKV.out (row_texts hown6)
      obtain ⟨a6, c6, rfl, h6⟩ := id hr6
      obtain ⟨G, hG1, hG2⟩ : ∃ G : Nat → ByteArray, RowAt w6 1 (.slice a6 k c6) k (fun i _ => Value.string (G i)) ∧ RowAt w6 1 (.slice aw k cw) k (fun i _ => Value.string (G i)) := ⟨fun i => (kinds 400 n).getD i ⟨#[]⟩, hr6, HRW.out.below hb6⟩
      have HR6 := Lib.hid hG1
      have HW6 := Lib.hid hG2
      have HB6 : Hid (Below w5.heap.size w5 w6) := Lib.hid hb6
      clear hL6 hown6 hb6 hr6 h6 hG1 hG2 hKK
      go_wp2_with fail
      refine (least_any most K k _ HKV.out).mono ?_
      rintro e w7 ⟨rfl, rfl⟩
      go_wp2_with fail
      refine (eq_strings k (.slice a6 k c6) (.slice aw k cw) G w7 (by omega) HR6.out HW6.out).mono ?_
      rintro e w8 ⟨rfl, q, rfl⟩
      go_wp2_with fail
      go_ret
      exact ⟨rfl, (HB5.out.trans (HB6.out.mono HB5.out.size)).trans ⟨rfl, rfl, rfl, Nat.le_refl _, fun _ _ => rfl⟩⟩
end Go.Proofs.YtpifflakohlglaaGreatFmt

/- What is proved here: FnExactYieldsToldSaid: the law answers true for every input, and the input reads as it did: the told and tied card. Conditions: the listed tables lie as the program's text lays them (the card ties that). -/
namespace Go.Proofs.YtpifflakohlglaaGreatFmt
open Go.ChangeShapes Go.WideShapes Go.ChangeAt Go.RowKit
open Go.ChangeMaps (open_string shut_string)
open Go.Extern.Stop Go.Stop Go.Extern
set_option linter.unusedVariables false

theorem underInt : Tryz.prog.underlying 3 = some (.int .i64) := by kernel_rfl
theorem laid_met (os : Os) (args : Array Value) : laidMetH Tryz.prog Rows.fnExactYieldsRow.laid ((World.laidAll Tryz.prog os Rows.fnExactYieldsRow.laid).forCall (fun _ _ => 0) ⟨#[], args, []⟩).memory := by
  rw [MakeChecks.laidMetH_plain _ _ _ (by kernel_rfl)]
  exact laidMet_laidAll _ (by kernel_rfl) (by kernel_rfl)
set_option maxRecDepth 100000 in
theorem lifted (os : Os) (started : os.Started) (H : Type) (enc : TypeId × Value → H) :
    ReturnsInTold none {} Tryz.checked os 4 .any Input.okWide ((OpenSpec.ofChange Rows.fnExactYieldsSpec).preRow enc Tryz.prog Tryz.f4 [] false Rows.fnExactYieldsRow.laid) (fun F => ((OpenSpec.ofChange Rows.fnExactYieldsSpec).at F).post enc Tryz.prog Tryz.f4 false true false false) (aloneAtReturn Tryz.prog) nothingAlways := by
  refine returnsInTold_of_row (C := Tryz.checked) (s := OpenSpec.ofChange Rows.fnExactYieldsSpec) (by kernel_rfl) own started (by kernel_rfl) Tryz.func4
    (fun F => ⟨World.laidAll Tryz.prog os Rows.fnExactYieldsRow.laid, F.over fun _ _ => 0, ⟨#[], #[.agg #[.string ⟨#[]⟩, .string ⟨#[]⟩, .slice none 0 0], .int .i64 0], []⟩, World.laidAll_os _ _ _, World.shaped_of_ZipB (by kernel_rfl) (by kernel_rfl), rfl, (Input.okWide_of_okWideB (by kernel_rfl)).2,
      OpenSpec.preRow_of_B rfl 8 (by kernel_rfl) (by kernel_rfl) (laid_met os _), by
        simp only [Assume.holds]
        exact ⟨by simp, by simp, fun _ => F.over_modest Modest.zero, by simp, by simp⟩, F.over_answers _⟩) ?_
  intro F W base args ds gs before _ hF hval0 hW _ _ _ hL _
  have hval : ∀ (j : Nat) t v, Tryz.f4.params[j]? = some t → args[j]? = some v → Value.okWide Tryz.prog W .any base t v := hval0
  have hW' := hW
  obtain ⟨p, q, hA0, hV, rfl, hfz, hnd⟩ := hW
  have hA : DataW.TrodAll enc Tryz.prog W 0 (fun _ => true) true Tryz.f4.params.toList args.toList ds p := hA0
  have hlt := hA.lt
  rw [Tryz.params4] at hA hval
  obtain ⟨fs, f0, f1, f2, hu, _⟩ := underNode
  have hT : TokTab W ∧ 0 < W.heap.size := by
    have hL' := hL
    rw [MakeChecks.laidMetH_plain _ _ _ (by kernel_rfl)] at hL'
    exact toks_of_reads (Lib.laidMet.reads hL' (List.Mem.tail _ (List.Mem.tail _ (List.Mem.tail _ (List.Mem.head _)))))
  obtain ⟨v0, v1, d0, d1, p0, p1, hargs, rfl, hp, h0, h1⟩ := trodAll_two hA
  subst hargs
  obtain ⟨c0, rfl, hsz⟩ := okWide_struct hu (hval 0 24 v0 rfl rfl)
  obtain ⟨s, rfl, rfl, rfl, ws⟩ := open_int underInt (hval 1 3 v1 rfl rfl) h1
  have h0' := h0
  obtain ⟨fuel, h0⟩ := h0
  obtain ⟨n, v, hc, hk⟩ := open_node fuel h0
  have ec : c0 = #[.string n.kind, .string n.text, v] := Array.ext' hc
  subst ec
  have hlt0 : ∀ x ∈ p0, x.block < W.heap.size := fun x hx => hlt x (by rw [hp]; simp [hx])
  obtain ⟨g, hgs⟩ : ∃ g, gs = [g] := by
    obtain ⟨_, _, _, _, d, _, e, _⟩ := trodVars_one hV
    exact ⟨d, e⟩
  subst hgs
  refine (law_yields n v s W hk hT.1 hT.2).mono fun e W' ⟨he, hb⟩ => ?_
  subst he
  have hV' := Below.trodVars laidOut hb (by kernel_rfl) hV
  exact ⟨_, rfl, _, _, _, [], _, _, hW', trodAll_mk1 (shut_bool (by kernel_rfl) _), trodAll_mk2 (Below.trod laidOut (by kernel_rfl) (of_decide_eq_true (by kernel_rfl)) h0' hb hlt0) (shut_int underInt ws), hV', hb.frame _, fun h => by cases h⟩
theorem told_holds : Rows.FnExactYieldsToldSaid :=
  Claim7.holds_of_told_tied_any_at .later 4 Tryz.f4 "fmt.Sprintf, its operands' methods called" [] [] _ _ _ _ _ (by kernel_rfl) rfl rfl rfl laidOut (by kernel_rfl) rfl ⟨rfl, rfl, rfl, rfl, rfl, rfl, rfl⟩ rfl rfl (by kernel_rfl) (by kernel_rfl) Tryz.func4 (by kernel_rfl)
    (of_decide_eq_true (by kernel_rfl)) (by unfold Func.isWrapper; first | (rw [if_pos (by decide +kernel)]; kernel_rfl) | (rw [if_neg (by decide +kernel)]; exact ⟨rfl, rfl⟩)) stops.symm rfl stopKnobs.symm (by kernel_rfl)
    (by kernel_rfl) (by kernel_rfl) (by kernel_rfl) (by kernel_rfl) (by kernel_rfl) (by kernel_rfl) (by kernel_rfl) (by kernel_rfl) (by kernel_rfl) rfl (by kernel_rfl) rfl rfl
    rfl rfl
    rfl (by kernel_rfl) (by kernel_rfl) (by kernel_rfl) (by decide) (by kernel_rfl) fnExactYields_row_tie
    (OpenClaim.moreEntering_of (by kernel_rfl) (by kernel_rfl) (by kernel_rfl) (by kernel_rfl) (by kernel_rfl) (by kernel_rfl) (by kernel_rfl) (by kernel_rfl) (by kernel_rfl) (by kernel_rfl))
    ⟨_, WideRow.started_initial, quiet _⟩
    (fun os started _ H enc _ => lifted os started H enc)
#print axioms told_holds
end Go.Proofs.YtpifflakohlglaaGreatFmt

