/- What is proved here: FnExactNumbers answers true for every input, and the input reads as it did: the told and tied card. Conditions: none beyond those of the theorem itself. -/
import Derived.LoopTactic
import Derived.Test.YtgadnenkkfkaaaaGreatFmtMk
import Derived.Test.YtgadnenkkfkaaaaGreatFmtMj
import Derived.Test.YtgadnenkkfkaaaaGreatFmtMh
import Derived.Test.YtgadnenkkfkaaaaGreatFmtMf
import Derived.Test.YtgadnenkkfkaaaaGreatFmtMr
import Derived.Test.YtgadnenkkfkaaaaGreatFmtMl
set_option linter.all false
set_option linter.unusedVariables false
set_option linter.unusedSimpArgs false
/- What is proved here: spec.Events of a declaration. -/
namespace Go.Proofs.YtgadnenkkfkaaaaGreatFmt
open Go.RowKit Go.Shelf
set_option linter.unusedVariables false
set_option linter.unusedSimpArgs false
/-- What it gives: an owned row of texts. -/
def TextsPost (w : World) (L : List ByteArray) (e : Ending) (w' : World) : Prop := ∃ v', e = .returned v' ∧ Below w.heap.size w w' ∧ w'.ownsRow w.heap.size 9 1 v' L.length (L.map Value.string)
theorem ones_texts (L : List ByteArray) : ∀ u ∈ L.map Value.string, u.oneCell' = true := by
  intro u hu
  obtain ⟨s, _, rfl⟩ := List.mem_map.1 hu
  rfl

set_option maxHeartbeats 8000000 in
set_option maxRecDepth 100000 in
theorem specEvents_any (stop : ByteArray) (f : Nat) (hf : f ≤ 400) : ∀ {C : Nat → Nat → Value → Prop} {n : N} {t b : Nat}, Rep C n (Nd t b) → n.size ≤ f → ∀ (v : Value) (w : World), KidsAt (· < w.heap.size) w v n.kids →
    Calls Tryz.prog 15 #[n.val v, .string stop] w (TextsPost w (evs stop.toList f n)) := by
  induction f with
  | zero => intro C n t b hR hn; have := N.size_eq n; omega
  | succ f ih =>
    intro C n t b hR hn v w hk
    have hbr := hR.below_rep
    have hkl := kinds_le (f + 1) hR
    obtain ⟨i0, hi, hz0, hz1, hz2⟩ := info_parts infoString
    have HI0 := Lib.hid (And.intro hi (And.intro hz0 (And.intro hz1 hz2)))
    obtain ⟨a, cap, rfl, hcap, _⟩ := hk.shape
    have HIH := Lib.hid (fun (C : Nat → Nat → Value → Prop) (n : N) (t b : Nat) (hR : Rep C n (Nd t b)) => @ih (by omega) C n t b hR)
    have HR := Lib.hid hR
    have HK := Lib.hid hk
    have HBR := Lib.hid hbr
    have hes := (evs_le stop.toList (f + 1) n)
    have HES := Lib.hid (show (evs stop.toList (f + 1) n).length ≤ 4 * 400 by omega)
    have hbW := (Below.refl w.heap.size w).alloc (Nat.le_refl _) (Obj.cells #[Value.string n.kind, Value.string n.text, .slice a n.kids.length cap] 24)
    have hbW2 := hbW.alloc (by simp) (Obj.cells #[.string n.kind] 9)
    have how := own_new1 (w.alloc (Obj.cells #[Value.string n.kind, Value.string n.text, .slice a n.kids.length cap] 24)) (.string n.kind) 9 9 rfl
    clear hi hz0 hz1 hz2 ih hR hk hbr hkl hes
    cases hst : (n.kind.toList == stop.toList) with
    | true =>
      have hev : evs stop.toList (f + 1) n = [n.kind] := by simp [evs, hst]
      rw [hev]
      have HFIN := Lib.hid (And.intro hbW2 (own_mono how (by simp : w.heap.size ≤ _)))
      clear hbW hbW2 how
      unfold N.val
      go_enter Tryz.func15, Tryz.ntmps15
      go_wp2_with fail
      go_ret
      exact ⟨_, rfl, HFIN.out.1, by simpa using HFIN.out.2⟩
    | false =>
      have hev : evs stop.toList (f + 1) n = n.kind :: ((subs n).flatMap (evs stop.toList f) ++ [(⟨#[]⟩ : ByteArray)]) := by simp [evs, hst]
      rw [hev]
      rw [hev] at HES
      clear hev
      have HBW := Lib.hid hbW2
      have HOW := Lib.hid (own_mono how (by simp : w.heap.size ≤ _))
      have hsz2 : ((w.alloc (Obj.cells #[Value.string n.kind, Value.string n.text, .slice a n.kids.length cap] 24)).alloc (Obj.cells #[.string n.kind] 9)).heap.size = w.heap.size + 2 := by simp
      have BN : Blk ((w.alloc (Obj.cells #[Value.string n.kind, Value.string n.text, .slice a n.kids.length cap] 24)).alloc (Obj.cells #[.string n.kind] 9)) w.heap.size 24 #[Value.string n.kind, Value.string n.text, .slice a n.kids.length cap] := (Blk.new w _ 24).later ((Below.refl (w.heap.size + 1) _).alloc (by simp) _) (by omega)
      have n0 := BN.cell 0 _ rfl
      have n1 := BN.cell 1 _ rfl
      have n2 := BN.cell 2 _ rfl
      clear hbW hbW2 how BN
      unfold N.val
      go_enter Tryz.func15, Tryz.ntmps15
      go_wp2_with fail
      generalize (w.alloc (Obj.cells #[Value.string n.kind, Value.string n.text, .slice a n.kids.length cap] 24)).alloc (Obj.cells #[.string n.kind] 9) = w2 at HBW HOW hsz2 n0 n1 n2 ⊢
      refine (below_any HR.out (by omega) w.heap.size _ w2 (by omega) (HK.out.under HBW.out)).mono ?_
      rintro e w3 ⟨kv, rfl, hb3, hkv⟩
      obtain ⟨ak, ck, rfl, hck, _⟩ := hkv.shape
      have hs3 := hb3.size
      have hlm : (subs n).length ≤ 1000000 := by
        have h1 := HBR.out
        exact subs_len HR.out (by omega)
      have HREL : Hid (RowRel (fun b => b < w.heap.size ∨ (w2.heap.size ≤ b ∧ b < w3.heap.size)) w w3.heap.size (.slice ak (subs n).length ck) (subs n) 9 1 (n.kind :: ((subs n).take 0).flatMap (evs stop.toList f)).length (((n.kind :: ((subs n).take 0).flatMap (evs stop.toList f))).map Value.string) (.slice (some ⟨w.heap.size + 1, 0, none⟩) 1 1) w3) := Lib.hid ⟨by simpa using owns_kept HOW.out hb3, hkv, fun g hg hx => by
        simp [Value.ownBlock] at hg
        omega, HBW.out.trans (hb3.mono (by omega)), Nat.le_refl _⟩
      have hok : ∀ b, (b < w.heap.size ∨ (w2.heap.size ≤ b ∧ b < w3.heap.size)) → b < w3.heap.size := fun b hb => by omega
      have HOK := Lib.hid hok
      have hT : ∀ j, (n.kind :: ((subs n).take j).flatMap (evs stop.toList f)).length ≤ 1600 := fun j => by
        have h1 := fm_take_le (evs stop.toList f) (subs n) j
        have h2 := HES.out
        simp only [List.length_cons, List.length_append, List.length_nil] at h2 ⊢
        omega
      have HT := Lib.hid hT
      clear hkv hb3 hok hT n0 n1 n2
      go_wp2_with fail
      go_loopw [19, 5] (fun vi out wr => ∃ j : Nat, j ≤ (subs n).length ∧ vi = .int .i64 j ∧ RowRel (fun b => b < w.heap.size ∨ (w2.heap.size ≤ b ∧ b < w3.heap.size)) w w3.heap.size (.slice ak (subs n).length ck) (subs n) 9 1 (n.kind :: ((subs n).take j).flatMap (evs stop.toList f)).length (((n.kind :: ((subs n).take j).flatMap (evs stop.toList f))).map Value.string) out wr) (fun vi _ _ => (subs n).length - (intOf vi).toNat)
      case atStart => exact ⟨0, Nat.zero_le _, rfl, HREL.out⟩
      case round =>
        obtain ⟨j, hj, rfl, hrl⟩ := hrel
        have hsr : w3.heap.size ≤ wr.heap.size := hrl.hi
        by_cases hjl : j < (subs n).length
        · have hjl' : (j : Int) < (((subs n).length : Nat) : Int) := by omega
          obtain ⟨x, hget⟩ : ∃ x, (subs n)[j]? = some x := ⟨_, List.getElem?_eq_getElem hjl⟩
          obtain ⟨aS, capS, hvS, _, hel⟩ := hrl.kids.shape
          obtain ⟨bb, oo, V, hae, hbb, c0, c1, c2, hV⟩ := hel j _ hget
          simp only [Value.slice.injEq] at hvS
          obtain ⟨rfl, _, rfl⟩ := hvS
          obtain rfl := hae
          obtain ⟨hxs, tx, bx, hRx⟩ := HBR.out x (List.mem_of_getElem? hget)
          have hstep := take_fm (evs stop.toList f) hget
          obtain ⟨ax, cx, rfl, _, _⟩ := hV.shape
          have hbx : Below wr.heap.size wr (wr.alloc (Obj.cells #[Value.string x.kind, Value.string x.text, Value.slice ax x.kids.length cx] 24)) := (Below.refl wr.heap.size wr).alloc (Nat.le_refl _) _
          have HRL := Lib.hid (hrl.later HOK.out hbx)
          have HV := Lib.hid ((hV.mono fun b hb => Nat.lt_of_lt_of_le (HOK.out b hb) hsr).later hbx)
          have HXX := Lib.hid (And.intro hRx (show x.size ≤ f by omega))
          have hstl : (n.kind :: ((subs n).take (j + 1)).flatMap (evs stop.toList f)) = (n.kind :: ((subs n).take j).flatMap (evs stop.toList f)) ++ evs stop.toList f x := by rw [hstep]; rfl
          have HSTEP := Lib.hid hstl
          have HTJ := Lib.hid (And.intro (HT.out j) (HT.out (j + 1)))
          have hxn : (evs stop.toList f x).length ≤ 1600 := by
            have h1 := (HTJ.out).2
            rw [hstl, List.length_append] at h1
            omega
          have HXN := Lib.hid hxn
          clear hV hbx hrl hRx hxs hstep hstl hel hget hxn
          go_wp2_with fail
          refine (HIH.out _ _ _ _ HXX.out.1 HXX.out.2 _ _ HV.out).mono ?_
          rintro e w5 ⟨v5, rfl, hb5, hown5⟩
          have HRL5 := Lib.hid (HRL.out.later HOK.out hb5)
          obtain ⟨a5, c5, rfl, hn5⟩ := row_news hown5
          have HN5 := Lib.hid hn5
          have H5Z := Lib.hid hown5.1
          clear hb5 hown5 hn5
          go_wp2_with (at_builtin; refine wpl_app_row rfl (.tmp 23) (.tmp 26) 34 rfl w.heap.size 9 i0 (.string ⟨#[]⟩) 1 16 underStrings HI0.out.1 HI0.out.2.1 HI0.out.2.2.1 HI0.out.2.2.2 rfl (by decide) _ _ _ rfl HRL5.out.own a5 _ c5 _ rfl H5Z.out HN5.out (ones_texts _) (by have h1 := HTJ.out.1; have h2 := HXN.out; unfold maxLen; omega) (by have h1 := HTJ.out.1; have h2 := HXN.out; omega) HRL5.out.low.size ?_; intro v6 w6 hown6 hg6 hw6; have HRL6 := Lib.hid (HRL5.out.app HOK.out hown6 hg6 hw6); clear hown6 hg6 hw6)
          go_roundw
          case rel => exact ⟨j + 1, by omega, by go_num, by rw [HSTEP.out]; rw [List.map_append, List.length_append]; exact HRL6.out⟩
          case measure => simp [intOf]; omega
        · have e : j = (subs n).length := by omega
          have htk : (subs n).take j = subs n := List.take_of_length_le (by omega)
          rw [htk] at hrl
          have HRL := Lib.hid (hrl.later HOK.out ((Below.refl wr.heap.size wr).alloc (Nat.le_refl _) (Obj.cells #[.string ⟨#[]⟩] 9)))
          have hTL := HT.out (subs n).length
          rw [List.take_of_length_le (Nat.le_refl _)] at hTL
          have HTL := Lib.hid hTL
          clear hrl htk hTL
          subst e
          go_wp2_with (at_builtin; refine wpl_app_row rfl (.tmp 29) (.tmp 30) 34 rfl w.heap.size 9 i0 (.string ⟨#[]⟩) 1 16 underStrings HI0.out.1 HI0.out.2.1 HI0.out.2.2.1 HI0.out.2.2.2 rfl (by decide) _ _ _ rfl HRL.out.own (some ⟨wr.heap.size, 0, none⟩) 1 1 [.string ⟨#[]⟩] rfl rfl (fun j u hj => ⟨_, rfl, World.news_of_block (heap_alloc_new wr (.cells #[.string ⟨#[]⟩] 9)) j u hj⟩) (fun u hu => by simp at hu; subst hu; rfl) (by have h1 := HTL.out; unfold maxLen; omega) (by have h1 := HTL.out; omega) HRL.out.low.size ?_; intro v6 w6 hown6 hg6 hw6; have HRL6 := Lib.hid (HRL.out.app HOK.out hown6 hg6 hw6); clear hown6 hg6 hw6)
          go_ret
          exact ⟨_, rfl, HRL6.out.low, (by simpa [List.map_append] using HRL6.out.own)⟩
end Go.Proofs.YtgadnenkkfkaaaaGreatFmt

/- What is proved here: NumFields of a list of fields; which nodes are lists of fields. -/
namespace Go.Proofs.YtgadnenkkfkaaaaGreatFmt
open Go.RowKit Go.Shelf
set_option linter.unusedVariables false
set_option linter.unusedSimpArgs false

theorem fieldN_le (f : N) : fieldN f ≤ f.size := by
  have h := N.len_lt f
  have := N.size_eq f
  unfold fieldN
  split <;> omega
theorem fieldN_sum (l : List N) : (l.map fieldN).sum ≤ N.sizes l := by
  induction l with
  | nil => simp [N.sizes]
  | cons x r ih => rw [List.map_cons, List.sum_cons, N.sizes_cons]; have := fieldN_le x; omega
theorem sizes_take2 (l : List N) (j : Nat) : N.sizes (l.take j) ≤ N.sizes l := by
  induction l generalizing j with
  | nil => simp
  | cons x r ih =>
    cases j with
    | zero => simp [N.sizes]
    | succ j => rw [List.take_succ_cons, N.sizes_cons, N.sizes_cons]; have := ih j; omega
/-- A node is a list of fields just if it is one in memory. -/
theorem fl_of {C : Nat → Nat → Value → Prop} {x : N} {t b : Nat} (h : Rep C x (Nd t b)) : (t = 58 ∧ isK x [102, 105, 101, 108, 100, 115] = true) ∨ (¬ t = 58 ∧ isK x [102, 105, 101, 108, 100, 115] = false) := by
  have no : ∀ {c : List UInt8}, isK x c = true → (c == [102, 105, 101, 108, 100, 115]) = false → isK x [102, 105, 101, 108, 100, 115] = false := fun h1 h2 => by rw [isK, isK_eq h1]; exact h2
  cases h with
  | name _ _ hk => exact .inr ⟨by decide, no hk rfl⟩
  | literal _ _ hk => exact .inr ⟨by decide, no hk rfl⟩
  | select _ _ _ _ _ hk => exact .inr ⟨by decide, no hk rfl⟩
  | star _ _ _ _ hk => exact .inr ⟨by decide, no hk rfl⟩
  | array _ _ _ _ _ _ hk => exact .inr ⟨by decide, no hk rfl⟩
  | map _ _ _ _ _ _ hk => exact .inr ⟨by decide, no hk rfl⟩
  | chan _ _ _ _ _ hk => exact .inr ⟨by decide, no hk rfl⟩
  | signature _ _ _ _ _ _ _ hk => exact .inr ⟨by decide, no hk rfl⟩
  | struct _ _ _ _ hk => exact .inr ⟨by decide, no hk rfl⟩
  | interface _ _ _ _ hk => exact .inr ⟨by decide, no hk rfl⟩
  | fields _ _ _ _ hk => exact .inl ⟨rfl, hk⟩
  | field _ _ _ _ _ _ _ _ _ hk => exact .inr ⟨by decide, no hk rfl⟩
  | path _ _ _ _ _ _ hk => exact .inr ⟨by decide, no hk rfl⟩
  | value _ _ _ _ _ _ _ _ _ _ hk => exact .inr ⟨by decide, no hk rfl⟩
  | type _ _ _ _ _ _ hk => rcases hk with ⟨hk, _⟩ | ⟨hk, _⟩ <;> exact .inr ⟨by decide, no hk rfl⟩
  | gen _ _ _ _ _ _ hk => rcases tokOf_kind hk with h | h | h | h <;> exact .inr ⟨by decide, no h rfl⟩
  | func _ _ _ _ _ _ _ _ _ _ _ hk => exact .inr ⟨by decide, no hk rfl⟩
  | body _ _ hk => exact .inr ⟨by decide, no hk rfl⟩
theorem sum_take_fieldN {ks : List N} {j : Nat} {m : N} (h : ks[j]? = some m) : ((ks.take (j + 1)).map fieldN).sum = ((ks.take j).map fieldN).sum + fieldN m := by
  rw [List.take_add_one, h]
  simp

set_option maxHeartbeats 2000000 in
set_option maxRecDepth 100000 in
theorem numF_any {C : Nat → Nat → Value → Prop} {n : N} {b : Nat} (hR : Rep C n (Nd 58 b)) (hn : n.size ≤ 1000000) (w : World) (hS : Sees C w) :
    Calls Tryz.prog 31 #[Pt b] w fun e w' => e = .returned (.int .i64 (((n.kids.map fieldN).sum : Nat) : Int)) ∧ w' = w := by
  cases hR with
  | fields _ _ V vl hk ht cl hl hr =>
    obtain ⟨a, cap, rfl, hcap, hel⟩ := hl
    have c1 := hS _ _ _ cl
    have hlt := hS.lt cl
    have hks : n.kids.length ≤ 1000000 := by have := N.len_lt n; omega
    have HEL := Lib.hid hel
    have HS := Lib.hid hS
    have HR := Lib.hid hr
    have hsz : N.sizes n.kids ≤ 1000000 := by have := N.size_eq n; omega
    have HSZ := Lib.hid hsz
    clear hel hS hr cl hk ht hsz
    generalize n.kids = ks at *
    go_enter Tryz.func31, Tryz.ntmps31
    go_wp2_with fail
    go_loopw [3, 14] (fun c i wr => ∃ j : Nat, j ≤ ks.length ∧ i = .int .i64 j ∧ c = .int .i64 ((((ks.take j).map fieldN).sum : Nat) : Int) ∧ wr = w) (fun _ i _ => ks.length - (intOf i).toNat)
    case atStart => exact ⟨0, Nat.zero_le _, rfl, rfl, rfl⟩
    case round =>
      obtain ⟨j, hj, rfl, rfl, rfl⟩ := hrel
      by_cases hjl : j < ks.length
      · obtain ⟨bb, oo, rfl, hc⟩ := HEL.out j hjl
        obtain ⟨m, hget⟩ : ∃ m, ks[j]? = some m := ⟨_, List.getElem?_eq_getElem hjl⟩
        have c2 := HS.out _ _ _ hc
        have hRm := HR.out j m hget
        have hst := sum_take_fieldN hget
        have hb1 : ((ks.take j).map fieldN).sum ≤ 1000000 := by
          have h1 := fieldN_sum (ks.take j)
          have h2 := sizes_take2 ks j
          have h3 := HSZ.out
          omega
        have hfm : fieldN m ≤ 1000000 := by
          have h1 := fieldN_le m
          have h2 := N.sizes_at hget
          have h3 := HSZ.out
          omega
        have HST := Lib.hid hst
        have HFM := Lib.hid hfm
        clear hst hget hc hfm
        generalize hV : V j = q at hRm c2
        generalize ((ks.take j).map fieldN).sum = z at hb1 HST ⊢
        cases hRm with
        | field _ _ x r vx V' vl' vt pt hk h0 cd cl hl hr2 ex cx rx ct ot rt cc =>
          obtain ⟨a', cap', rfl, hcap', _⟩ := hl
          have c3 := HS.out _ _ _ cl
          have hq := HS.out.lt cl
          have hfn : fieldN m = if r.length = 0 then 1 else r.length := by
            unfold fieldN
            rw [h0]
            simp only [List.length_cons]
            split <;> split <;> omega
          have HFN := Lib.hid hfn
          have hrl : r.length ≤ 1000000 := by
            have := HFM.out
            rw [hfn] at this
            split at this <;> omega
          clear hk h0 cd cl hr2 ex cx rx ct ot rt cc hfn
          by_cases hr0 : r.length = 0
          · rw [hr0] at c3
            have hfz : fieldN m = 1 := by rw [HFN.out, if_pos hr0]
            rw [hfz] at HST
            clear hfz hr0
            go_wp2_with fail
            go_roundw
            case rel => exact ⟨j + 1, by omega, by go_num, by rw [HST.out]; go_num, trivial⟩
            case measure => simp [intOf]; omega
          · have hfz : fieldN m = r.length := by rw [HFN.out, if_neg hr0]
            rw [hfz] at HST
            have hr1 : ((r.length : Int) == 0) = false := beq_eq_false_iff_ne.2 (by omega)
            clear hfz
            go_wp2_with fail
            go_roundw
            case rel => exact ⟨j + 1, by omega, by go_num, by rw [HST.out]; go_num, trivial⟩
            case measure => simp [intOf]; omega
      · have e : j = ks.length := by omega
        subst e
        have htk : ks.take ks.length = ks := List.take_of_length_le (Nat.le_refl _)
        rw [htk]
        clear htk
        go_wp2_with fail
        go_ret
        exact ⟨rfl, rfl⟩
end Go.Proofs.YtgadnenkkfkaaaaGreatFmt

/- What is proved here: Numbers over Preorder: what it keeps between two rounds. -/
namespace Go.Proofs.YtgadnenkkfkaaaaGreatFmt
open Go.RowKit Go.Shelf
set_option linter.unusedVariables false
set_option linter.unusedSimpArgs false
attribute [local go_sem] Oper.semAt_some

/-- A number as a value. -/
def nv (k : Nat) : Value := .int .i64 (k : Int)
/-- What a node adds. -/
def numOf (x : N) : List Nat := if isK x [102, 105, 101, 108, 100, 115] then [(x.kids.map fieldN).sum] else []
theorem nums_nodes (f : Nat) : ∀ n, nums f n = (nodes f n).flatMap numOf := by
  induction f with
  | zero => intro n; rfl
  | succ f ih =>
    intro n
    simp only [nums, nodes, List.flatMap_cons]
    have h : ∀ l : List N, l.flatMap (nums f) = (l.flatMap (nodes f)).flatMap numOf := by
      intro l
      induction l with
      | nil => rfl
      | cons x r ihr => rw [List.flatMap_cons, List.flatMap_cons, List.flatMap_append, ih x, ihr]
    rw [h]
    rfl
theorem nums_le (f : Nat) (n : N) : (nums f n).length ≤ (kinds f n).length := by
  rw [nums_nodes, kinds_nodes, List.length_map]
  generalize nodes f n = l
  induction l with
  | nil => simp
  | cons x r ih =>
    rw [List.flatMap_cons, List.length_append, List.length_cons]
    have : (numOf x).length ≤ 1 := by unfold numOf; split <;> simp
    omega
theorem underInts : Tryz.prog.underlying 38 = some (.slice 3) := by kernel_rfl
theorem infoInt : (Tryz.prog.info? 3).map (fun i => (i.zero, i.size, i.bytes)) = some (some (.int .i64 0), 1, 8) := by kernel_rfl
/-- What Numbers keeps between two rounds. -/
structure NmInv (C : Nat → Nat → Value → Prop) (O s B : Nat) (w0 : World) (ks : List Nat) (w : World) : Prop where
  out : ∃ v, Blk w O 38 #[v] ∧ w.ownsRow (s + 4) 3 1 v ks.length (ks.map nv)
  sees : Sees C w
  tab : TokTab w
  low : Below B w0 w
structure NmLay (C : Nat → Nat → Value → Prop) (O s B : Nat) : Prop where
  o : O < s
  c : ∀ b o u, C b o u → b < s ∧ b ≠ O
  bo : B ≤ O
  b0 : 0 < B
theorem NmInv.grown {C : Nat → Nat → Value → Prop} {O s B : Nat} {w0 : World} {ks : List Nat} (hL : NmLay C O s B) : OutWin s (NmInv C O s B w0 ks) := by
  intro W W' row h hg hrow
  obtain ⟨v, hv, hown⟩ := h.out
  have ho := hL.o
  have hbo := hL.bo
  have hb0 := hL.b0
  have ol := hv.lt
  have keep : ∀ b, b < s → b < W.heap.size → W'.heap[b]? = W.heap[b]? := fun b hb hlt => hg.block b hlt (fun e => by have := (hrow b e.symm).1; omega)
  refine ⟨⟨v, (keep O ho ol).trans hv, ?_⟩, fun b o u hc => ?_, fun i t hi => ?_, h.low.grown hg (by omega) (fun k hk => by have := (hrow k hk).1; omega)⟩
  · refine hown.kept hg (Classical.or_iff_not_imp_left.2 fun hne e => ?_)
    cases hv : v.ownBlock with
    | none => exact hne hv
    | some g =>
      have h1 := (hown.lt g hv).1
      have h2 := (hrow g (by rw [← e, hv])).2
      omega
  · have hlt : b < W.heap.size := World.block_lt_of_cell? W _ (h.sees b o u hc)
    exact (World.cell?_of_block (keep b (hL.c b o u hc).1 hlt)).trans (h.sees b o u hc)
  · obtain ⟨x, hx, hc⟩ := h.tab i t hi
    exact ⟨x, hx, (World.cell?_of_block (keep 0 (by omega) (by omega))).trans hc⟩
theorem NmInv.later {C : Nat → Nat → Value → Prop} {O s B : Nat} {w0 w w' : World} {ks : List Nat} (h : NmInv C O s B w0 ks w) (hL : NmLay C O s B) (hb : Below w.heap.size w w') : NmInv C O s B w0 ks w' := by
  obtain ⟨v, h1, h2⟩ := h.out
  have ol := h1.lt
  have hbo := hL.bo
  have hb0 := hL.b0
  refine ⟨⟨v, h1.later hb h1.lt, owns_kept h2 hb⟩, h.sees.later hb, fun i t hi => ?_, h.low.trans (hb.mono (by omega))⟩
  obtain ⟨x, hx, hc⟩ := h.tab i t hi
  exact ⟨x, hx, (hb.cell (p := ⟨0, 61 + i, none⟩) (by show 0 < w.heap.size; omega)).trans hc⟩
theorem NmInv.push {C : Nat → Nat → Value → Prop} {O s B : Nat} {w0 w w' : World} {ks : List Nat} (h : NmInv C O s B w0 ks w) (hL : NmLay C O s B) {v : Value} {g cap : Nat} {k : Nat} (hs : s + 4 ≤ w.heap.size)
    (hv : Blk w O 38 #[v]) (hown : w.ownsRow (s + 4) 3 1 v ks.length (ks.map nv))
    (hown' : w'.ownsRow (s + 4) 3 1 (.slice (some ⟨g, 0, none⟩) (ks.length + 1) cap) (ks.length + 1) (ks.map nv ++ [nv k])) (hg : w.grownBy w' v.ownBlock) :
    NmInv C O s B w0 (ks ++ [k]) (w'.setCell ⟨O, 0, none⟩ (.slice (some ⟨g, 0, none⟩) (ks.length + 1) cap)) ∧ ∀ b, b < s + 4 → b ≠ O → (w'.setCell ⟨O, 0, none⟩ (.slice (some ⟨g, 0, none⟩) (ks.length + 1) cap)).heap[b]? = w.heap[b]? := by
  have hlow := hown.lt
  have keep : ∀ b, b < s + 4 → w'.heap[b]? = w.heap[b]? := fun b hb => hg.block b (by omega) (fun e => by have := (hlow b e.symm).1; omega)
  have keep2 : ∀ b, b < s + 4 → b ≠ O → (w'.setCell ⟨O, 0, none⟩ (.slice (some ⟨g, 0, none⟩) (ks.length + 1) cap)).heap[b]? = w.heap[b]? := fun b hb hne => (heap_setCell_other _ _ b _ hne).trans (keep b hb)
  have ho := hL.o
  have hbo := hL.bo
  have hb0 := hL.b0
  have hO : Blk w' O 38 #[v] := (keep O (by omega)).trans hv
  refine ⟨⟨⟨_, by simpa using hO.set 0 (.slice (some ⟨g, 0, none⟩) (ks.length + 1) cap), ?_⟩, fun b o u hc => ?_, fun i t hi => ?_, ?_⟩, keep2⟩
  · have := ownsRow_setCell_below (a := ⟨O, 0, none⟩) hown' (by show O < s + 4; omega) (.slice (some ⟨g, 0, none⟩) (ks.length + 1) cap)
    simpa using this
  · obtain ⟨c1, c2⟩ := hL.c b o u hc
    exact (World.cell?_of_block (keep2 b (by omega) c2)).trans (h.sees b o u hc)
  · obtain ⟨x, hx, hc⟩ := h.tab i t hi
    exact ⟨x, hx, (World.cell?_of_block (keep2 0 (by omega) (by omega))).trans hc⟩
  · exact (h.low.grown hg (by omega) (fun k hk => by have := (hlow k hk).1; omega)).setCell (by show B ≤ O; omega) _
end Go.Proofs.YtgadnenkkfkaaaaGreatFmt

/- What is proved here: spec.Numbers of a declaration. -/
namespace Go.Proofs.YtgadnenkkfkaaaaGreatFmt
open Go.RowKit Go.Shelf
set_option linter.unusedVariables false
set_option linter.unusedSimpArgs false
/-- What it gives: an owned row of numbers. -/
def NumsPost (w : World) (L : List Nat) (e : Ending) (w' : World) : Prop := ∃ v', e = .returned v' ∧ Below w.heap.size w w' ∧ w'.ownsRow w.heap.size 3 1 v' L.length (L.map nv)
theorem ones_nums (L : List Nat) : ∀ u ∈ L.map nv, u.oneCell' = true := by
  intro u hu
  obtain ⟨s, _, rfl⟩ := List.mem_map.1 hu
  rfl
theorem nums_succ (f : Nat) (n : N) : nums (f + 1) n = numOf n ++ (subs n).flatMap (nums f) := rfl

set_option maxHeartbeats 8000000 in
set_option maxRecDepth 100000 in
theorem specNumbers_any (f : Nat) (hf : f ≤ 400) : ∀ {C : Nat → Nat → Value → Prop} {n : N} {t b : Nat}, Rep C n (Nd t b) → n.size ≤ f → ∀ (v : Value) (w : World), KidsAt (· < w.heap.size) w v n.kids →
    Calls Tryz.prog 19 #[n.val v] w (NumsPost w (nums f n)) := by
  induction f with
  | zero => intro C n t b hR hn; have := N.size_eq n; omega
  | succ f ih =>
    intro C n t b hR hn v w hk
    have hbr := hR.below_rep
    have hkl := kinds_le (f + 1) hR
    have hnl := N.len_lt n
    obtain ⟨i0, hi, hz0, hz1, hz2⟩ := info_parts infoInt
    have HI0 := Lib.hid (And.intro hi (And.intro hz0 (And.intro hz1 hz2)))
    obtain ⟨a, cap, rfl, hcap, _⟩ := hk.shape
    have HIH := Lib.hid (fun (C : Nat → Nat → Value → Prop) (n : N) (t b : Nat) (hR : Rep C n (Nd t b)) => @ih (by omega) C n t b hR)
    have HR := Lib.hid hR
    have HK := Lib.hid hk
    have HBR := Lib.hid hbr
    have hes := nums_le (f + 1) n
    have hes2 : (nums (f + 1) n).length ≤ 4 * 400 := by omega
    rw [nums_succ] at hes2
    have HES := Lib.hid hes2
    have hbW := (Below.refl w.heap.size w).alloc (Nat.le_refl _) (Obj.cells #[Value.string n.kind, Value.string n.text, .slice a n.kids.length cap] 24)
    have BN : Blk (w.alloc (Obj.cells #[Value.string n.kind, Value.string n.text, .slice a n.kids.length cap] 24)) w.heap.size 24 #[Value.string n.kind, Value.string n.text, .slice a n.kids.length cap] := Blk.new w _ 24
    have hsw : (w.alloc (Obj.cells #[Value.string n.kind, Value.string n.text, .slice a n.kids.length cap] 24)).heap.size = w.heap.size + 1 := by simp
    have n0 := BN.cell 0 _ rfl
    have n1 := BN.cell 1 _ rfl
    have n2 := BN.cell 2 _ rfl
    have HBN := Lib.hid BN
    have HBW := Lib.hid hbW
    clear hi hz0 hz1 hz2 ih hR hk hbr hkl hes hes2 BN hbW
    rw [nums_succ]
    unfold N.val
    go_enter Tryz.func19, Tryz.ntmps19
    cases hfl : (n.kind.toList == [102, 105, 101, 108, 100, 115]) with
    | false =>
      have hno : numOf n = [] := by simp [numOf, isK, hfl]
      rw [hno] at HES ⊢
      go_wp2_with fail
      generalize w.alloc (Obj.cells #[Value.string n.kind, Value.string n.text, .slice a n.kids.length cap] 24) = w2 at HBN HBW hsw n0 n1 n2 ⊢
      have HOW : Hid (w2.ownsRow w.heap.size 3 1 (.slice none 0 0) 0 []) := Lib.hid (World.ownsRow_nil _ _ _ _)
      refine (below_any HR.out (by omega) w.heap.size _ w2 (by omega) (HK.out.under HBW.out)).mono ?_
      rintro e w3 ⟨kv, rfl, hb3, hkv⟩
      obtain ⟨ak, ck, rfl, hck, _⟩ := hkv.shape
      have hs3 := hb3.size
      have hlm : (subs n).length ≤ 1000000 := subs_len HR.out (by omega)
      have HREL : Hid (RowRel (fun b => b < w.heap.size ∨ (w2.heap.size ≤ b ∧ b < w3.heap.size)) w w3.heap.size (.slice ak (subs n).length ck) (subs n) 3 1 ((([] : List Nat) ++ ((subs n).take 0).flatMap (nums f))).length (((([] : List Nat) ++ ((subs n).take 0).flatMap (nums f))).map nv) (.slice none 0 0) w3) := Lib.hid ⟨by simpa [nv] using owns_kept HOW.out hb3, hkv, fun g hg hx => by simp [Value.ownBlock] at hg, HBW.out.trans (hb3.mono (by omega)), Nat.le_refl _⟩
      have hok : ∀ b, (b < w.heap.size ∨ (w2.heap.size ≤ b ∧ b < w3.heap.size)) → b < w3.heap.size := fun b hb => by omega
      have HOK := Lib.hid hok
      have hT : ∀ j, (([] : List Nat) ++ ((subs n).take j).flatMap (nums f)).length ≤ 1600 := fun j => by
        have h1 := fm_take_le (nums f) (subs n) j
        have h2 := HES.out
        simp only [List.length_append] at h2 ⊢
        omega
      have HT := Lib.hid hT
      clear hkv hb3 hok hT n0 n1 n2
      go_wp2_with fail
      go_loopw [34, 3] (fun vi out wr => ∃ j : Nat, j ≤ (subs n).length ∧ vi = .int .i64 j ∧ RowRel (fun b => b < w.heap.size ∨ (w2.heap.size ≤ b ∧ b < w3.heap.size)) w w3.heap.size (.slice ak (subs n).length ck) (subs n) 3 1 ((([] : List Nat) ++ ((subs n).take j).flatMap (nums f))).length (((([] : List Nat) ++ ((subs n).take j).flatMap (nums f))).map nv) out wr) (fun vi _ _ => (subs n).length - (intOf vi).toNat)
      case atStart => exact ⟨0, Nat.zero_le _, rfl, HREL.out⟩
      case round =>
        obtain ⟨j, hj, rfl, hrl⟩ := hrel
        have hsr : w3.heap.size ≤ wr.heap.size := hrl.hi
        by_cases hjl : j < (subs n).length
        · have hjl' : (j : Int) < (((subs n).length : Nat) : Int) := by omega
          obtain ⟨x, hget⟩ : ∃ x, (subs n)[j]? = some x := ⟨_, List.getElem?_eq_getElem hjl⟩
          obtain ⟨aS, capS, hvS, _, hel⟩ := hrl.kids.shape
          obtain ⟨bb, oo, V, hae, hbb, c0, c1, c2, hV⟩ := hel j _ hget
          simp only [Value.slice.injEq] at hvS
          obtain ⟨rfl, _, rfl⟩ := hvS
          obtain rfl := hae
          obtain ⟨hxs, tx, bx, hRx⟩ := HBR.out x (List.mem_of_getElem? hget)
          have hstep := take_fm (nums f) hget
          obtain ⟨ax, cx, rfl, _, _⟩ := hV.shape
          have hbx : Below wr.heap.size wr (wr.alloc (Obj.cells #[Value.string x.kind, Value.string x.text, Value.slice ax x.kids.length cx] 24)) := (Below.refl wr.heap.size wr).alloc (Nat.le_refl _) _
          have HRL := Lib.hid (hrl.later HOK.out hbx)
          have HV := Lib.hid ((hV.mono fun b hb => Nat.lt_of_lt_of_le (HOK.out b hb) hsr).later hbx)
          have HXX := Lib.hid (And.intro hRx (show x.size ≤ f by omega))
          have hstl : (([] : List Nat) ++ ((subs n).take (j + 1)).flatMap (nums f)) = (([] : List Nat) ++ ((subs n).take j).flatMap (nums f)) ++ nums f x := by rw [hstep, List.append_assoc]
          have HSTEP := Lib.hid hstl
          have HTJ := Lib.hid (And.intro (HT.out j) (HT.out (j + 1)))
          have hxn : (nums f x).length ≤ 1600 := by
            have h1 := (HTJ.out).2
            rw [hstl, List.length_append] at h1
            omega
          have HXN := Lib.hid hxn
          clear hV hbx hrl hRx hxs hstep hstl hel hget hxn
          go_wp2_with fail
          refine (HIH.out _ _ _ _ HXX.out.1 HXX.out.2 _ _ HV.out).mono ?_
          rintro e w5 ⟨v5, rfl, hb5, hown5⟩
          have HRL5 := Lib.hid (HRL.out.later HOK.out hb5)
          obtain ⟨a5, c5, rfl, hn5⟩ := row_news hown5
          have HN5 := Lib.hid hn5
          have H5Z := Lib.hid hown5.1
          clear hb5 hown5 hn5
          go_wp2_with (at_builtin; refine wpl_app_row rfl (.tmp 38) (.tmp 40) 38 rfl w.heap.size 3 i0 (.int .i64 0) 1 8 underInts HI0.out.1 HI0.out.2.1 HI0.out.2.2.1 HI0.out.2.2.2 rfl (by decide) _ _ _ rfl HRL5.out.own a5 _ c5 _ rfl H5Z.out HN5.out (ones_nums _) (by have h1 := HTJ.out.1; have h2 := HXN.out; unfold maxLen; omega) (by have h1 := HTJ.out.1; have h2 := HXN.out; omega) HRL5.out.low.size ?_; intro v6 w6 hown6 hg6 hw6; have HRL6 := Lib.hid (HRL5.out.app HOK.out hown6 hg6 hw6); clear hown6 hg6 hw6)
          go_roundw
          case rel => exact ⟨j + 1, by omega, by go_num, by rw [HSTEP.out, List.map_append, List.length_append]; exact HRL6.out⟩
          case measure => simp [intOf]; omega
        · have e : j = (subs n).length := by omega
          have htk : (subs n).take j = subs n := List.take_of_length_le (by omega)
          rw [htk] at hrl
          have HRL := Lib.hid hrl
          clear hrl htk
          subst e
          go_wp2_with fail
          go_ret
          exact ⟨_, rfl, HRL.out.low, HRL.out.own⟩
    | true =>
      have hno : numOf n = [(n.kids.map fieldN).sum] := by simp [numOf, isK, hfl]
      rw [hno] at HES ⊢
      go_wp2_with fail
      generalize w.alloc (Obj.cells #[Value.string n.kind, Value.string n.text, .slice a n.kids.length cap] 24) = w1 at HBN HBW hsw n0 n1 n2 ⊢
      obtain ⟨aK, capK, hvK, hcapK, helK⟩ := HK.out.shape
      simp only [Value.slice.injEq] at hvK
      obtain ⟨rfl, _, rfl⟩ := hvK
      have HELK := Lib.hid helK
      have hkn : n.kids.length ≤ 1000 := by omega
      clear helK
      go_loopw [4, 15] (fun c vi wr => ∃ j : Nat, j ≤ n.kids.length ∧ vi = .int .i64 j ∧ c = .int .i64 ((((n.kids.take j).map fieldN).sum : Nat) : Int) ∧ Below w1.heap.size w1 wr) (fun _ vi _ => n.kids.length - (intOf vi).toNat)
      case atStart => exact ⟨0, Nat.zero_le _, rfl, rfl, Below.refl _ _⟩
      case round =>
        obtain ⟨j, hj, rfl, rfl, hbr⟩ := hrel
        have hsr : w1.heap.size ≤ wr.heap.size := hbr.size
        have hb1 : ((n.kids.take j).map fieldN).sum ≤ 1000 := by
          have h1 := fieldN_sum (n.kids.take j)
          have h2 := sizes_take2 n.kids j
          have h3 := N.size_eq n
          omega
        have BNr := HBN.out.later hbr (by omega)
        by_cases hjl : j < n.kids.length
        · obtain ⟨m, hget⟩ : ∃ m, n.kids[j]? = some m := ⟨_, List.getElem?_eq_getElem hjl⟩
          obtain ⟨bb, oo, V, rfl, hbb, c0, c1, c2, hV⟩ := HELK.out j m hget
          obtain ⟨am, cm, rfl, _, _⟩ := hV.shape
          have hst := sum_take_fieldN hget
          have hms := N.size_kid hget
          have hml := N.len_lt m
          have hbw : bb < wr.heap.size := by omega
          have hbx := HBW.out.trans (hbr.mono (by omega))
          have c0 := (hbx.cell (p := ⟨bb, oo + j * 3, none⟩) hbb).trans c0
          have c1 := (hbx.cell (p := ⟨bb, oo + j * 3 + 1, none⟩) hbb).trans c1
          have c2 := (hbx.cell (p := ⟨bb, oo + j * 3 + 2, none⟩) hbb).trans c2
          have hal : Below wr.heap.size wr (wr.alloc (Obj.cells #[Value.string m.kind, Value.string m.text, Value.slice am m.kids.length cm] 24)) := (Below.refl wr.heap.size wr).alloc (Nat.le_refl _) _
          have HAL := Lib.hid (hbr.trans (hal.mono hsr))
          have hfn : fieldN m = if m.kids.length ≤ 1 then 1 else m.kids.length - 1 := rfl
          have HST := Lib.hid hst
          have HFN := Lib.hid hfn
          have hmk : m.kids.length ≤ 1000 := by omega
          clear hst hfn hV hbx hal hbr hget hms hml BNr
          generalize ((n.kids.take j).map fieldN).sum = z at hb1 HST ⊢
          by_cases hm1 : m.kids.length ≤ 1
          · have hfz : fieldN m = 1 := by rw [HFN.out, if_pos hm1]
            rw [hfz] at HST
            have hmi : (m.kids.length : Int) - 1 ≤ 1 := by omega
            have hmj : ¬ 1 < (m.kids.length : Int) - 1 := by omega
            clear hfz
            go_wp2_with fail
            all_goals
              go_roundw
              case rel => exact ⟨j + 1, by omega, by go_num, by rw [HST.out]; first | go_num | (exfalso; omega), HAL.out⟩
              case measure => simp [intOf]; omega
          · have hfz : fieldN m = m.kids.length - 1 := by rw [HFN.out, if_neg hm1]
            rw [hfz] at HST
            have hmi : 1 ≤ (m.kids.length : Int) - 1 := by omega
            have hmc : ((m.kids.length - 1 : Nat) : Int) = (m.kids.length : Int) - 1 := by omega
            have HMC := Lib.hid hmc
            clear hfz hmc
            go_wp2_with fail
            all_goals
              go_roundw
              case rel => exact ⟨j + 1, by omega, by go_num, by rw [HST.out]; first | (rw [Int.natCast_add, HMC.out]; go_num) | (have := HMC.out; congr 1; omega), HAL.out⟩
              case measure => simp [intOf]; omega
        · have e : j = n.kids.length := by omega
          subst e
          have htk : n.kids.take n.kids.length = n.kids := List.take_of_length_le (Nat.le_refl _)
          rw [htk] at hb1 ⊢
          have m0 := BNr.cell 0 _ rfl
          have m1 := BNr.cell 1 _ rfl
          have m2 := BNr.cell 2 _ rfl
          have ml := BNr.lt
          have hbx := HBW.out.trans (hbr.mono (by omega))
          have hal : Below wr.heap.size wr (wr.alloc (Obj.cells #[nv (n.kids.map fieldN).sum] 3)) := (Below.refl wr.heap.size wr).alloc (Nat.le_refl _) _
          have HAL := Lib.hid (hbx.trans (hal.mono hbx.size))
          have HBNr := Lib.hid (BNr.later hal ml)
          have hzz : w.heap.size + 1 ≤ wr.heap.size := by omega
          clear hbx hal BNr hbr htk hj
          generalize (n.kids.map fieldN).sum = z at *
          simp only [nv] at HAL HBNr
          go_wp2_with (at_builtin; refine wpl_app_row rfl (.tmp 27) (.tmp 29) 38 rfl w.heap.size 3 i0 (.int .i64 0) 1 8 underInts HI0.out.1 HI0.out.2.1 HI0.out.2.2.1 HI0.out.2.2.2 rfl (by decide) (.slice none 0 0) 0 [] rfl (World.ownsRow_nil _ _ _ _) (some ⟨wr.heap.size, 0, none⟩) 1 1 [.int .i64 (z : Int)] rfl rfl (fun j u hj => ⟨_, rfl, World.news_of_block (heap_alloc_new wr (.cells #[.int .i64 (z : Int)] 3)) j u hj⟩) (fun u hu => by simp at hu; subst hu; rfl) (by decide) (by decide) (by simp; omega) ?_; intro v2 w2 hown2 hg2 _; have hbg : Below (wr.alloc (Obj.cells #[.int .i64 (z : Int)] 3)).heap.size (wr.alloc (Obj.cells #[.int .i64 (z : Int)] 3)) w2 := ⟨hg2.os, hg2.tape, hg2.output, hg2.size, fun k hk => hg2.block k hk (fun e => by simp [Value.ownBlock] at e)⟩; have BN2 := HBNr.out.later hbg (by simp; omega); have n0 := BN2.cell 0 _ rfl; have n1 := BN2.cell 1 _ rfl; have n2 := BN2.cell 2 _ rfl; have nl := BN2.lt; have HBW2 := Lib.hid (HAL.out.trans (hbg.mono HAL.out.size)); have HOW := Lib.hid hown2; clear BN2 hbg hown2 hg2)
          have HBW := HBW2
          have hsw2 : w.heap.size + 1 ≤ w2.heap.size := by omega
          obtain ⟨aO, cO, rfl, _, _⟩ := owns_form HOW.out
          refine (below_any HR.out (by omega) w.heap.size _ w2 (by omega) (HK.out.under HBW.out)).mono ?_
          rintro e w3 ⟨kv, rfl, hb3, hkv⟩
          obtain ⟨ak, ck, rfl, hck, _⟩ := hkv.shape
          have hs3 := hb3.size
          have hlm : (subs n).length ≤ 1000000 := subs_len HR.out (by omega)
          have HREL : Hid (RowRel (fun b => b < w.heap.size ∨ (w2.heap.size ≤ b ∧ b < w3.heap.size)) w w3.heap.size (.slice ak (subs n).length ck) (subs n) 3 1 (([z] ++ ((subs n).take 0).flatMap (nums f))).length ((([z] ++ ((subs n).take 0).flatMap (nums f))).map nv) (.slice aO 1 cO) w3) := Lib.hid ⟨by simpa [nv] using owns_kept HOW.out hb3, hkv, fun g hg hx => by have h1 := HOW.out.lt g hg; omega, HBW.out.trans (hb3.mono (by omega)), Nat.le_refl _⟩
          have hok : ∀ b, (b < w.heap.size ∨ (w2.heap.size ≤ b ∧ b < w3.heap.size)) → b < w3.heap.size := fun b hb => by omega
          have HOK := Lib.hid hok
          have hT : ∀ j, ([z] ++ ((subs n).take j).flatMap (nums f)).length ≤ 1600 := fun j => by
            have h1 := fm_take_le (nums f) (subs n) j
            have h2 := HES.out
            simp only [List.length_append] at h2 ⊢
            omega
          have HT := Lib.hid hT
          clear hkv hb3 hok hT n0 n1 n2
          go_wp2_with fail
          go_loopw [34, 3] (fun vi out wr => ∃ j : Nat, j ≤ (subs n).length ∧ vi = .int .i64 j ∧ RowRel (fun b => b < w.heap.size ∨ (w2.heap.size ≤ b ∧ b < w3.heap.size)) w w3.heap.size (.slice ak (subs n).length ck) (subs n) 3 1 (([z] ++ ((subs n).take j).flatMap (nums f))).length ((([z] ++ ((subs n).take j).flatMap (nums f))).map nv) out wr) (fun vi _ _ => (subs n).length - (intOf vi).toNat)
          case atStart => exact ⟨0, Nat.zero_le _, rfl, HREL.out⟩
          case round =>
            obtain ⟨j, hj, rfl, hrl⟩ := hrel
            have hsr : w3.heap.size ≤ wr.heap.size := hrl.hi
            by_cases hjl : j < (subs n).length
            · have hjl' : (j : Int) < (((subs n).length : Nat) : Int) := by omega
              obtain ⟨x, hget⟩ : ∃ x, (subs n)[j]? = some x := ⟨_, List.getElem?_eq_getElem hjl⟩
              obtain ⟨aS, capS, hvS, _, hel⟩ := hrl.kids.shape
              obtain ⟨bb, oo, V, hae, hbb, c0, c1, c2, hV⟩ := hel j _ hget
              simp only [Value.slice.injEq] at hvS
              obtain ⟨rfl, _, rfl⟩ := hvS
              obtain rfl := hae
              obtain ⟨hxs, tx, bx, hRx⟩ := HBR.out x (List.mem_of_getElem? hget)
              have hstep := take_fm (nums f) hget
              obtain ⟨ax, cx, rfl, _, _⟩ := hV.shape
              have hbx : Below wr.heap.size wr (wr.alloc (Obj.cells #[Value.string x.kind, Value.string x.text, Value.slice ax x.kids.length cx] 24)) := (Below.refl wr.heap.size wr).alloc (Nat.le_refl _) _
              have HRL := Lib.hid (hrl.later HOK.out hbx)
              have HV := Lib.hid ((hV.mono fun b hb => Nat.lt_of_lt_of_le (HOK.out b hb) hsr).later hbx)
              have HXX := Lib.hid (And.intro hRx (show x.size ≤ f by omega))
              have hstl : ([z] ++ ((subs n).take (j + 1)).flatMap (nums f)) = ([z] ++ ((subs n).take j).flatMap (nums f)) ++ nums f x := by rw [hstep, List.append_assoc]
              have HSTEP := Lib.hid hstl
              have HTJ := Lib.hid (And.intro (HT.out j) (HT.out (j + 1)))
              have hxn : (nums f x).length ≤ 1600 := by
                have h1 := (HTJ.out).2
                rw [hstl, List.length_append] at h1
                omega
              have HXN := Lib.hid hxn
              clear hV hbx hrl hRx hxs hstep hstl hel hget hxn
              go_wp2_with fail
              refine (HIH.out _ _ _ _ HXX.out.1 HXX.out.2 _ _ HV.out).mono ?_
              rintro e w5 ⟨v5, rfl, hb5, hown5⟩
              have HRL5 := Lib.hid (HRL.out.later HOK.out hb5)
              obtain ⟨a5, c5, rfl, hn5⟩ := row_news hown5
              have HN5 := Lib.hid hn5
              have H5Z := Lib.hid hown5.1
              clear hb5 hown5 hn5
              go_wp2_with (at_builtin; refine wpl_app_row rfl (.tmp 38) (.tmp 40) 38 rfl w.heap.size 3 i0 (.int .i64 0) 1 8 underInts HI0.out.1 HI0.out.2.1 HI0.out.2.2.1 HI0.out.2.2.2 rfl (by decide) _ _ _ rfl HRL5.out.own a5 _ c5 _ rfl H5Z.out HN5.out (ones_nums _) (by have h1 := HTJ.out.1; have h2 := HXN.out; unfold maxLen; omega) (by have h1 := HTJ.out.1; have h2 := HXN.out; omega) HRL5.out.low.size ?_; intro v6 w6 hown6 hg6 hw6; have HRL6 := Lib.hid (HRL5.out.app HOK.out hown6 hg6 hw6); clear hown6 hg6 hw6)
              go_roundw
              case rel => exact ⟨j + 1, by omega, by go_num, by rw [HSTEP.out, List.map_append, List.length_append]; exact HRL6.out⟩
              case measure => simp [intOf]; omega
            · have e : j = (subs n).length := by omega
              have htk : (subs n).take j = subs n := List.take_of_length_le (by omega)
              rw [htk] at hrl
              have HRL := Lib.hid hrl
              clear hrl htk
              subst e
              go_wp2_with fail
              go_ret
              exact ⟨_, rfl, HRL.out.low, HRL.out.own⟩

end Go.Proofs.YtgadnenkkfkaaaaGreatFmt

/- What is proved here: Numbers, walked. -/
namespace Go.Proofs.YtgadnenkkfkaaaaGreatFmt
open Go.RowKit Go.Shelf
set_option linter.unusedVariables false
set_option linter.unusedSimpArgs false
attribute [local go_sem] Oper.semAt_some

def NmI (C : Nat → Nat → Value → Prop) (O s B : Nat) (w0 : World) (xs : List N) (w : World) : Prop := NmInv C O s B w0 (xs.flatMap numOf) w
theorem nm_stable {C : Nat → Nat → Value → Prop} {O s B : Nat} {w0 : World} (hL : NmLay C O s B) : Stable C s (NmI C O s B w0) (fun _ _ _ => False) where
  i := fun xs W W' row h hg hr => NmInv.grown hL W W' row h hg hr
  x := fun c xs W W' row h hg hr => h
  si := fun xs W h => h.sees
  sx := fun c xs W h => h.elim
/-- What Numbers gives. -/
def NumbersPost (n : N) (w : World) (e : Ending) (w' : World) : Prop := ∃ v', e = .returned v' ∧ w'.ownsRow w.heap.size 3 1 v' (nums 400 n).length ((nums 400 n).map nv) ∧ Below w.heap.size w w'
theorem nm_end {C : Nat → Nat → Value → Prop} {O s B : Nat} {w0 w W : World} {ks : List Nat} {v : Value} (hL : NmLay C O s B) (hI : NmInv C O s B w0 ks W) (hv : Blk W O 38 #[v]) (hB : B ≤ s + 4) : (W.putObj s (.deferred none)).ownsRow B 3 1 v ks.length (ks.map nv) ∧ Below B w0 (W.putObj s (.deferred none)) := by
  have h := NmInv.grown hL W (W.putObj s (.deferred none)) (some s) hI (grownBy_putObj' W s (.deferred none)) (fun k hk => by cases hk; exact ⟨by omega, by omega⟩)
  obtain ⟨v', hv', hown⟩ := h.out
  have hsame : Blk (W.putObj s (.deferred none)) O 38 #[v] := (World.putObj_heap_other (by have := hL.o; omega)).trans hv
  have he : v' = v := by
    have h1 := hv'.symm.trans hsame
    simpa using h1
  subst he
  exact ⟨own_mono hown hB, h.low⟩
set_option maxHeartbeats 4000000 in
set_option maxRecDepth 100000 in
theorem numbers_any (n : N) (v : Value) (w : World) (hs : shapedB n = true) (hk : KidsAt (· < w.heap.size) w v n.kids) (hT : TokTab w) (h0 : 0 < w.heap.size) :
    Calls Tryz.prog 18 #[n.val v] w (NumbersPost n w) := by
  have hsz := shaped_small hs
  have HB := fun w' (hk' : KidsAt (· < w'.heap.size) w' v n.kids) (hT' : TokTab w') (h0' : 0 < w'.heap.size) => build_any n v w' hs hk' hT' h0'
  have HBH := Lib.hid HB
  clear HB
  obtain ⟨a, cap, rfl, hcap, hel⟩ := hk.shape
  have HK := Lib.hid hk
  have HT := Lib.hid hT
  let w1 := w.alloc (Obj.cells #[Value.string n.kind, Value.string n.text, Value.slice a n.kids.length cap] 24)
  let w3 := w1.alloc (Obj.cells #[Value.slice none 0 0] 38)
  have s1 : w1.heap.size = w.heap.size + 1 := by simp [w1]
  have s3 : w3.heap.size = w.heap.size + 2 := by simp [w3, s1]
  have hb3 : Below w.heap.size w w3 := ((Below.refl w.heap.size w).alloc (Nat.le_refl _) _).alloc (by simp) _
  have bN : Blk w3 w.heap.size 24 #[Value.string n.kind, Value.string n.text, Value.slice a n.kids.length cap] := (Blk.new w _ 24).later ((Below.refl (w.heap.size + 1) _).alloc (by simp) _) (by omega)
  have bO : Blk w3 (w.heap.size + 1) 38 #[Value.slice none 0 0] := by
    have := Blk.new w1 #[Value.slice none 0 0] 38
    simpa [s1] using this
  have hT3 : TokTab w3 := fun i t hi => by
    obtain ⟨x, hx, hc⟩ := hT i t hi
    exact ⟨x, hx, (hb3.cell (p := ⟨0, 61 + i, none⟩) h0).trans hc⟩
  have e00 := bN.cell 0 _ rfl
  have e10 := bN.cell 1 _ rfl
  have e20 := bN.cell 2 _ rfl
  have en0 := bN.lt
  have HB3 := Lib.hid hb3
  have BO := Lib.hid bO
  have HT3 := Lib.hid hT3
  have S3 := Lib.hid s3
  clear hb3 bN bO hT3 hk hT hel
  simp only [w3, w1] at *
  clear s1 s3
  unfold N.val
  refine (callsIn_wide (n := 6)).1 (callsIn_of_wp_marks Tryz.func18 rfl trivial ?_ rfl)
  simp only [Tryz.ntmps18, List.size_toArray, List.length_cons, List.length_nil, Nat.reduceAdd, Nat.reduceSub, Array.replicate_succ, Array.replicate_zero, List.push_toArray, List.append_toArray, List.nil_append, List.cons_append]
  gi_wp2_with fail
  refine ⟨trivial, CallsIn.mono (callsIn_wide.2 (HBH.out _ (HK.out.later HB3.out) HT3.out (by have := S3.out; omega))) ?_⟩
  rintro e w4 ⟨t, b, rfl, ht, hb4, hR⟩
  have s3 := S3.out
  have hsz4 := hb4.size
  have bO4 := BO.out.later hb4 BO.out.lt
  have hT4 : TokTab w4 := fun i t hi => by
    obtain ⟨x, hx, hc⟩ := HT3.out i t hi
    exact ⟨x, hx, (hb4.cell (p := ⟨0, 61 + i, none⟩) (by show 0 < _; omega)).trans hc⟩
  have hB4 : Below w.heap.size w w4 := HB3.out.trans (hb4.mono (by omega))
  rw [s3] at hR
  have H4 := Lib.hid (And.intro bO4 (And.intro hT4 (And.intro hB4 hR)))
  clear bO4 hT4 hB4 hR hb4 HBH HK HT HB3 BO HT3
  gi_wp2_with fail
  refine ⟨trivial, CallsIn.mono (callsIn_wide.2 (preorder_any t b w4)) ?_⟩
  rintro e w5 ⟨rfl, hw5⟩
  have hb5 : Below w4.heap.size w4 w5 := by rw [hw5]; exact (Below.refl _ _).alloc (Nat.le_refl _) _
  have s5 : w5.heap.size = w4.heap.size + 1 := by rw [hw5]; simp
  have hroot : w5.cell? ⟨w4.heap.size, 0, none⟩ = some (Nd t b) := by rw [hw5]; simp
  have H5 := Lib.hid (And.intro hb5 (And.intro s5 hroot))
  clear hb5 s5 hroot hw5
  gi_wp2_with fail
  obtain ⟨hb5, s5, hroot⟩ := H5.out
  obtain ⟨bO4, hT4, hB4, hR⟩ := H4.out
  have hL : NmLay (At (Bt (w.heap.size + 2) w4.heap.size) w4) (w.heap.size + 1) w5.heap.size w.heap.size := ⟨by omega, fun b o u hc => ⟨by have := hc.1.2; omega, by have := hc.1.1; omega⟩, by omega, h0⟩
  have hI0 : NmI (At (Bt (w.heap.size + 2) w4.heap.size) w4) (w.heap.size + 1) w5.heap.size w.heap.size w [] w5 :=
    ⟨⟨.slice none 0 0, bO4.later hb5 bO4.lt, World.ownsRow_nil _ _ _ _⟩, fun b o u hc => (hb5.cell (p := ⟨b, o, none⟩) hc.1.2).trans hc.2, fun i t hi => by
      obtain ⟨x, hx, hc⟩ := hT4 i t hi
      exact ⟨x, hx, (hb5.cell (p := ⟨0, 61 + i, none⟩) (by show 0 < _; omega)).trans hc⟩, hB4.trans (hb5.mono (by omega))⟩
  have HL := Lib.hid hL
  clear bO4 hT4 hB4
  refine range_pre2 (m := 6) 10 4 hR hsz rfl (by omega) hroot rfl _ (fun _ _ _ => False) (nm_stable hL) hI0 ?_ ?_ ?_ ?_
  · intro l x W K hK
    clear hI0 hL hroot hb5
    gi_wp2
    exact hK
  · clear hI0 hL hroot hb5 H4 H5 hR e00 e10 e20 en0 S3
    have s5a : w4.heap.size + 1 ≤ w5.heap.size := by omega
    have s5b : w5.heap.size ≤ w4.heap.size + 1 := by omega
    clear s5
    intro l xs x t' b' W hI hw4 hRx hxs hxl
    have hI : NmInv _ _ _ _ _ (xs.flatMap numOf) W := hI
    simp only [List.setIfInBounds_toArray, List.set_cons_zero, List.set_cons_succ]
    obtain ⟨v0, hv0, hown0⟩ := hI.out
    have o0 := hv0.cell 0 v0 rfl
    have of0 := hv0.frozen 0
    have ol := hv0.lt
    have has0 := fun (X : TypeId) (u : Value) (w : World) => as_FieldListP 58 X u w
    simp only [if_true] at has0
    have HI := Lib.hid hI
    have HV := Lib.hid (And.intro hv0 hown0)
    have HRX := Lib.hid hRx
    clear hI hv0 hown0 hRx
    obtain ⟨i0, hi, hz0, hz1, hz2⟩ := info_parts infoInt
    have HI0 := Lib.hid (And.intro hi (And.intro hz0 (And.intro hz1 hz2)))
    have hlen : (xs.flatMap numOf).length ≤ 1600 := by
      have : ∀ l : List N, (l.flatMap numOf).length ≤ l.length := by
        intro l
        induction l with
        | nil => simp
        | cons y r ih =>
          rw [List.flatMap_cons, List.length_append, List.length_cons]
          have : (numOf y).length ≤ 1 := by unfold numOf; split <;> simp
          omega
      have := this xs
      omega
    clear hi hz0 hz1 hz2
    generalize hks : xs.flatMap numOf = ks at HI HV hlen
    have HKS := Lib.hid hks
    clear hks
    rcases fl_of HRX.out with ⟨rfl, hfx⟩ | ⟨hne, hfx⟩
    · have hno : numOf x = [(x.kids.map fieldN).sum] := by simp [numOf, hfx]
      have hkin : (xs ++ [x]).flatMap numOf = ks ++ [(x.kids.map fieldN).sum] := by rw [List.flatMap_append, HKS.out]; simp [hno]
      have HKN := Lib.hid hkin
      clear hno hkin hfx
      have hb0 := HI.out.later HL.out ((Below.refl W.heap.size W).drew)
      have HID := Lib.hid hb0
      have hdr : Below W.heap.size W W.drew := (Below.refl _ _).drew
      have hal : Below W.heap.size W.drew (W.drew.alloc (Obj.cells #[Value.int .i64 (((x.kids.map fieldN).sum : Nat) : Int)] 3)) := (Below.refl W.heap.size W.drew).alloc (show W.heap.size ≤ W.drew.heap.size from Nat.le_refl _) _
      have HI7 := Lib.hid (And.intro (HID.out.later HL.out hal) (And.intro ((HV.out.1.later hdr ol).later hal ol) (And.intro (owns_kept (owns_kept HV.out.2 hdr) hal) (hdr.trans hal))))
      clear hb0 hdr hal
      gi_wp2_with fail
      refine regionIn_any (by kernel_rfl) (by kernel_rfl) (fun ⟨_, _, h⟩ => h) ?_
      refine wpAny_take (i := 1) (v := Pt b') rfl (by kernel_rfl) (by kernel_rfl) (by kernel_rfl) (fun _ _ _ h => h) (Or.inl ⟨by rfl, ?_⟩) ?_
      · intro w; go_simp
      simp only [Act.put, List.setIfInBounds_toArray, List.set_cons_zero, List.set_cons_succ]
      refine wpAny_ready (rs := [0, 2]) (by kernel_rfl) (by simp) ?_
      refine AllReady.cons rfl (fun K hK => ?_) (AllReady.cons rfl (fun K hK => ?_) AllReady.nil)
      · go_simp
        refine hK _ _ ?_
        clear hK K
        refine wpAny_ready (rs := [2]) (by kernel_rfl) (by simp) ?_
        refine AllReady.cons rfl (fun K hK => ?_) AllReady.nil
        refine step_call (by rfl) 31 _ _ (by rfl) #[Pt b'] (by first | rfl | (simp [Act.eval]; done) | (simp [Act.eval, Act.put]; done)) (enters_of Tryz.func31 (by kernel_rfl) rfl) (numF_any HRX.out hxs W.drew HID.out.sees) ?_
        rintro e w6 ⟨rfl, rfl⟩
        refine ⟨_, rfl, ?_⟩
        refine hK _ _ ?_
        clear hK K
        refine wpAny_ready (rs := [3]) (by kernel_rfl) (by simp) ?_
        refine AllReady.cons rfl (fun K hK => ?_) AllReady.nil
        go_simp
        refine hK _ _ ?_
        clear hK K
        refine wpAny_ready (rs := [4]) (by kernel_rfl) (by simp) ?_
        refine AllReady.cons rfl (fun K hK => ?_) AllReady.nil
        refine step_append_lies _ (by rfl) _ _ _ (by rfl) (w5.heap.size + 4) 3 i0 (.int .i64 0) 1 8 underInts HI0.out.1 HI0.out.2.1 HI0.out.2.2.1 HI0.out.2.2.2 rfl (by decide) v0 ks.length (ks.map nv) (by rfl) HI7.out.2.2.1 ⟨W.heap.size, 0, none⟩ 1 1 [.int .i64 (((x.kids.map fieldN).sum : Nat) : Int)] (by rfl) rfl (World.news_of_block (heap_alloc_new W.drew _)) (fun u hu => by simp at hu; subst hu; rfl) (by decide) (by unfold maxLen; omega) (by omega) (by simp; omega) _ rfl ?_
        intro g cap' w7 hown7 hg7 _ _
        refine hK _ _ ?_
        clear hK K
        have hO7 : Blk w7 (w.heap.size + 1) 38 #[v0] := (hg7.block (w.heap.size + 1) (by simp; omega) (fun h => by have := (HI7.out.2.2.1.lt _ h.symm).1; omega)).trans HI7.out.2.1
        have p0 := hO7.cell 0 v0 rfl
        have pf := hO7.frozen 0
        have pl := hO7.lt
        have HP := Lib.hid (HI7.out.1.push (k := (x.kids.map fieldN).sum) HL.out (by simp; omega) HI7.out.2.1 HI7.out.2.2.1 hown7 hg7)
        clear hO7 hown7 hg7
        refine wpAny_ready (rs := [5]) (by kernel_rfl) (by simp) ?_
        refine AllReady.cons rfl (fun K hK => ?_) AllReady.nil
        go_simp
        refine hK _ _ ?_
        clear hK K
        refine wpAny_done (by kernel_rfl) ?_ _
        have hwin : ∀ k, Win w5.heap.size k → _ = W.heap[k]? := fun k hk => (HP.out.2 k (by have := hk.2; omega) (by have := hk.1; omega)).trans (HI7.out.2.2.2.block k (by have := hk.2; omega))
        have HW := Lib.hid hwin
        clear hwin
        gi_wp2_with fail
        exact ⟨HW.out, by show NmInv _ _ _ _ _ ((xs ++ [x]).flatMap numOf) _; rw [HKN.out]; exact HP.out.1⟩
      · refine step_call (by rfl) 31 _ _ (by rfl) #[Pt b'] (by first | rfl | (simp [Act.eval]; done) | (simp [Act.eval, Act.put]; done)) (enters_of Tryz.func31 (by kernel_rfl) rfl) (numF_any HRX.out hxs W.drew HID.out.sees) ?_
        rintro e w6 ⟨rfl, rfl⟩
        refine ⟨_, rfl, ?_⟩
        refine hK _ _ ?_
        clear hK K
        refine wpAny_ready (rs := [0, 3]) (by kernel_rfl) (by simp) ?_
        refine AllReady.cons rfl (fun K hK => ?_) (AllReady.cons rfl (fun K hK => ?_) AllReady.nil)
        · go_simp
          refine hK _ _ ?_
          clear hK K
          refine wpAny_ready (rs := [3]) (by kernel_rfl) (by simp) ?_
          refine AllReady.cons rfl (fun K hK => ?_) AllReady.nil
          go_simp
          refine hK _ _ ?_
          clear hK K
          refine wpAny_ready (rs := [4]) (by kernel_rfl) (by simp) ?_
          refine AllReady.cons rfl (fun K hK => ?_) AllReady.nil
          refine step_append_lies _ (by rfl) _ _ _ (by rfl) (w5.heap.size + 4) 3 i0 (.int .i64 0) 1 8 underInts HI0.out.1 HI0.out.2.1 HI0.out.2.2.1 HI0.out.2.2.2 rfl (by decide) v0 ks.length (ks.map nv) (by rfl) HI7.out.2.2.1 ⟨W.heap.size, 0, none⟩ 1 1 [.int .i64 (((x.kids.map fieldN).sum : Nat) : Int)] (by rfl) rfl (World.news_of_block (heap_alloc_new W.drew _)) (fun u hu => by simp at hu; subst hu; rfl) (by decide) (by unfold maxLen; omega) (by omega) (by simp; omega) _ rfl ?_
          intro g cap' w7 hown7 hg7 _ _
          refine hK _ _ ?_
          clear hK K
          have hO7 : Blk w7 (w.heap.size + 1) 38 #[v0] := (hg7.block (w.heap.size + 1) (by simp; omega) (fun h => by have := (HI7.out.2.2.1.lt _ h.symm).1; omega)).trans HI7.out.2.1
          have p0 := hO7.cell 0 v0 rfl
          have pf := hO7.frozen 0
          have pl := hO7.lt
          have HP := Lib.hid (HI7.out.1.push (k := (x.kids.map fieldN).sum) HL.out (by simp; omega) HI7.out.2.1 HI7.out.2.2.1 hown7 hg7)
          clear hO7 hown7 hg7
          refine wpAny_ready (rs := [5]) (by kernel_rfl) (by simp) ?_
          refine AllReady.cons rfl (fun K hK => ?_) AllReady.nil
          go_simp
          refine hK _ _ ?_
          clear hK K
          refine wpAny_done (by kernel_rfl) ?_ _
          have hwin : ∀ k, Win w5.heap.size k → _ = W.heap[k]? := fun k hk => (HP.out.2 k (by have := hk.2; omega) (by have := hk.1; omega)).trans (HI7.out.2.2.2.block k (by have := hk.2; omega))
          have HW := Lib.hid hwin
          clear hwin
          gi_wp2_with fail
          exact ⟨HW.out, by show NmInv _ _ _ _ _ ((xs ++ [x]).flatMap numOf) _; rw [HKN.out]; exact HP.out.1⟩
        · go_simp
          refine hK _ _ ?_
          clear hK K
          refine wpAny_ready (rs := [0]) (by kernel_rfl) (by simp) ?_
          refine AllReady.cons rfl (fun K hK => ?_) AllReady.nil
          go_simp
          refine hK _ _ ?_
          clear hK K
          refine wpAny_ready (rs := [4]) (by kernel_rfl) (by simp) ?_
          refine AllReady.cons rfl (fun K hK => ?_) AllReady.nil
          refine step_append_lies _ (by rfl) _ _ _ (by rfl) (w5.heap.size + 4) 3 i0 (.int .i64 0) 1 8 underInts HI0.out.1 HI0.out.2.1 HI0.out.2.2.1 HI0.out.2.2.2 rfl (by decide) v0 ks.length (ks.map nv) (by rfl) HI7.out.2.2.1 ⟨W.heap.size, 0, none⟩ 1 1 [.int .i64 (((x.kids.map fieldN).sum : Nat) : Int)] (by rfl) rfl (World.news_of_block (heap_alloc_new W.drew _)) (fun u hu => by simp at hu; subst hu; rfl) (by decide) (by unfold maxLen; omega) (by omega) (by simp; omega) _ rfl ?_
          intro g cap' w7 hown7 hg7 _ _
          refine hK _ _ ?_
          clear hK K
          have hO7 : Blk w7 (w.heap.size + 1) 38 #[v0] := (hg7.block (w.heap.size + 1) (by simp; omega) (fun h => by have := (HI7.out.2.2.1.lt _ h.symm).1; omega)).trans HI7.out.2.1
          have p0 := hO7.cell 0 v0 rfl
          have pf := hO7.frozen 0
          have pl := hO7.lt
          have HP := Lib.hid (HI7.out.1.push (k := (x.kids.map fieldN).sum) HL.out (by simp; omega) HI7.out.2.1 HI7.out.2.2.1 hown7 hg7)
          clear hO7 hown7 hg7
          refine wpAny_ready (rs := [5]) (by kernel_rfl) (by simp) ?_
          refine AllReady.cons rfl (fun K hK => ?_) AllReady.nil
          go_simp
          refine hK _ _ ?_
          clear hK K
          refine wpAny_done (by kernel_rfl) ?_ _
          have hwin : ∀ k, Win w5.heap.size k → _ = W.heap[k]? := fun k hk => (HP.out.2 k (by have := hk.2; omega) (by have := hk.1; omega)).trans (HI7.out.2.2.2.block k (by have := hk.2; omega))
          have HW := Lib.hid hwin
          clear hwin
          gi_wp2_with fail
          exact ⟨HW.out, by show NmInv _ _ _ _ _ ((xs ++ [x]).flatMap numOf) _; rw [HKN.out]; exact HP.out.1⟩
    · have hno : (xs ++ [x]).flatMap numOf = ks := by rw [List.flatMap_append, HKS.out]; simp [numOf, hfx]
      have HKN := Lib.hid hno
      have has1 : ∀ (X : TypeId) (u : Value) (w : World), (Instr.typeAssert (.iface t' u) X 58 true).run Tryz.prog w = .ok (.tuple #[.pointer none, .bool false]) w := fun X u w => by rw [as_FieldListP, if_neg hne]
      clear hno hfx
      gi_wp2_with fail
      exact ⟨fun _ _ => rfl, by show NmInv _ _ _ _ _ ((xs ++ [x]).flatMap numOf) _; rw [HKN.out]; exact HI.out⟩
  · -- done
    clear hI0 hroot hb5 H4 H5 hR e00 e10 e20 en0 S3
    have s5a : w4.heap.size + 1 ≤ w5.heap.size := by omega
    clear s5 hL
    intro W hI hdf
    have hI : NmInv _ _ _ _ _ ((nodes 400 n).flatMap numOf) W := hI
    obtain ⟨v0, hv0, hown0⟩ := hI.out
    have o0 := hv0.cell 0 v0 rfl
    have of0 := hv0.frozen 0
    have ol := hv0.lt
    have HE := Lib.hid (nm_end (w := w) HL.out hI hv0 (by omega))
    have HKN := Lib.hid (nums_nodes 400 n)
    have HDF := Lib.hid hdf
    clear hI hv0 hown0 hdf
    gi_wp2_with fail
    refine ⟨by simp, .inl ⟨_, _, rfl, run_takeDeferred HDF.out, ?_⟩⟩
    refine ⟨v0, ?_, v0, rfl, by rw [HKN.out]; exact HE.out.1, HE.out.2⟩
    simp [results, Tryz.f18, go_sem]
  · intro c pre W _ hX _
    exact hX.elim
end Go.Proofs.YtgadnenkkfkaaaaGreatFmt

/- What is proved here: the law FnExactEvents answers true, whatever the declaration. -/
namespace Go.Proofs.YtgadnenkkfkaaaaGreatFmt
open Go.RowKit Go.Shelf
set_option linter.unusedVariables false
set_option linter.unusedSimpArgs false
attribute [local go_sem ↓] Go.wp_at_zero Go.wp_at_succ
theorem TokTab.below {w w' : World} (h : TokTab w) (hb : Below w.heap.size w w') (h0 : 0 < w.heap.size) : TokTab w' := fun i t hi => by
  obtain ⟨x, hx, hc⟩ := h i t hi
  exact ⟨x, hx, (hb.cell (p := ⟨0, 61 + i, none⟩) h0).trans hc⟩
/-- A declaration of the shape lies in memory as some tree. -/
theorem rep_of_shape {n : N} {v : Value} {w : World} (hs : shapedB n = true) (hk : KidsAt (· < w.heap.size) w v n.kids) (hT : TokTab w) (h0 : 0 < w.heap.size) : ∃ (C : Nat → Nat → Value → Prop) (t b : Nat), Rep C n (Nd t b) := by
  obtain ⟨e, w', fr, ⟨t, b, _, _, hM⟩, _⟩ := build_any n v w hs hk hT h0 []
  exact ⟨_, t, b, hM.2⟩
theorem row_texts {w : World} {base n : Nat} {v : Value} {L : List ByteArray} (h : w.ownsRow base 9 1 v n (L.map Value.string)) : RowAt w 1 v n (fun i _ => Value.string (L.getD i ⟨#[]⟩)) := by
  have hn : L.length = n := by have := h.1; simpa using this
  refine (RowAt.of_owns h).congr fun i j hi hj => ?_
  have hj0 : j = 0 := by omega
  subst hj0
  have hi' : i < L.length := by omega
  simp [List.getD_eq_getElem?_getD, hi']

set_option maxHeartbeats 4000000 in
set_option maxRecDepth 100000 in
theorem law_events (n : N) (v : Value) (stop : ByteArray) (w : World) (hk : KidsAt (· < w.heap.size) w v n.kids) (hT : TokTab w) (h0 : 0 < w.heap.size) :
    Calls Tryz.prog 4 #[n.val v, .string stop] w fun e w' => e = .returned (.bool true) ∧ Below w.heap.size w w' := by
  obtain ⟨a, cap, rfl, hcap, _⟩ := hk.shape
  have BN : Blk (boxN w n (.slice a n.kids.length cap)) w.heap.size 24 #[Value.string n.kind, Value.string n.text, .slice a n.kids.length cap] := Blk.new w _ _
  have hbW : Below w.heap.size w (boxN w n (.slice a n.kids.length cap)) := (Below.refl w.heap.size w).alloc (Nat.le_refl _) _
  have hsw : w.heap.size + 1 ≤ (boxN w n (.slice a n.kids.length cap)).heap.size := by simp [boxN]
  have e0 := BN.cell 0 _ rfl
  have e1 := BN.cell 1 _ rfl
  have e2 := BN.cell 2 _ rfl
  have HBN := Lib.hid BN
  have HBW := Lib.hid hbW
  have HK := Lib.hid hk
  have HT := Lib.hid hT
  have H0 := Lib.hid h0
  clear BN hbW hk hT h0
  unfold N.val
  go_enter Tryz.func4, Tryz.ntmps4
  go_wp2_with fail
  simp only [boxN] at HBN HBW hsw e0 e1 e2
  generalize w.alloc (Obj.cells #[Value.string n.kind, Value.string n.text, .slice a n.kids.length cap] 24) = w1 at HBN HBW hsw e0 e1 e2 ⊢
  refine (fits1_any n a cap _).mono ?_
  rintro e w2 ⟨rfl, hb2⟩
  have hs2 := hb2.size
  have BN2 := HBN.out.later hb2 (by omega)
  have HBX := Lib.hid (HBW.out.trans (hb2.mono HBW.out.size))
  have d0 := BN2.cell 0 _ rfl
  have d1 := BN2.cell 1 _ rfl
  have d2 := BN2.cell 2 _ rfl
  have dn := BN2.lt
  have HBN2 := Lib.hid BN2
  clear BN2 hb2
  cases hf : fits1 n with
  | false =>
    clear hf
    go_wp2_with fail
    go_ret
    exact ⟨rfl, HBX.out⟩
  | true =>
    clear hf
    by_cases hst : stop.size ≤ 2147483647
    · have hst1 : (stop.size : Int) ≤ 2147483647 := by omega
      have hst2 : ¬ 2147483647 < (stop.size : Int) := by omega
      have hst3 : ¬ 2147483647 < stop.size := by omega
      go_wp2_with fail
      refine (shaped_any n _ _ (HK.out.later HBX.out)).mono ?_
      rintro e w3 ⟨rfl, hb3⟩
      have hs3 := hb3.size
      have BN3 := HBN2.out.later hb3 (by omega)
      have HB3 := Lib.hid (HBX.out.trans (hb3.mono HBX.out.size))
      have d0 := BN3.cell 0 _ rfl
      have d1 := BN3.cell 1 _ rfl
      have d2 := BN3.cell 2 _ rfl
      have dn := BN3.lt
      have HBN3 := Lib.hid BN3
      clear BN3 hb3
      cases hs : shapedB n with
      | false =>
        clear hs
        go_wp2_with fail
        go_ret
        exact ⟨rfl, HB3.out⟩
      | true =>
        have HS := Lib.hid hs
        have hk3 := HK.out.later HB3.out
        have hT3 := HT.out.below HB3.out H0.out
        have h03 : 0 < w3.heap.size := by omega
        obtain ⟨C, t, b, hR⟩ := rep_of_shape hs hk3 hT3 h03
        have hsz := shaped_small hs
        have hlen : (evs stop.toList 400 n).length ≤ 1600 := by
          have h1 := evs_le stop.toList 400 n
          have h2 := kinds_le 400 hR
          omega
        have HSZ := Lib.hid hsz
        have HR := Lib.hid hR
        have HDR : Hid (Below w3.heap.size w3 w3.drew) := Lib.hid (Below.refl _ _).drew
        have HK3 := Lib.hid (hk3.later HDR.out)
        have HT3 := Lib.hid (hT3.below HDR.out h03)
        have HBN4 := Lib.hid (HBN3.out.later HDR.out (by omega))
        have h03d : 0 < w3.drew.heap.size := h03
        have hwd : w.heap.size < w3.drew.heap.size := (show w.heap.size < w3.heap.size by omega)
        have HLEN := Lib.hid hlen
        clear hs hk3 hT3 hR hsz hlen
        go_wp2_with fail
        go_region_law (first
          | (refine step_call (by rfl) 14 _ _ (by rfl) #[.agg #[.string n.kind, .string n.text, .slice a n.kids.length cap], .string stop] (by first | rfl | (simp [Act.eval]; done) | (simp [Act.eval, Act.put]; done)) (enters_of Tryz.func14 (by kernel_rfl) rfl) (events_any n _ stop w3.drew HS.out HK3.out HT3.out h03d) ?_
             rintro e w5 ⟨r5, rfl, hown5, hb5⟩
             refine ⟨_, rfl, ?_⟩
             have h5z : w3.heap.size ≤ w5.heap.size := hb5.size
             have HI5 : Hid (w5.ownsRow w3.heap.size 9 1 r5 (evs stop.toList 400 n).length ((evs stop.toList 400 n).map Value.string) ∧ Below w3.drew.heap.size w3.drew w5) := Lib.hid ⟨hown5, hb5⟩
             have BN5 := HBN4.out.later hb5 hwd
             have d0 := BN5.cell 0 _ rfl
             have d1 := BN5.cell 1 _ rfl
             have d2 := BN5.cell 2 _ rfl
             have dn := BN5.lt
             clear BN5
             clear hown5 hb5)
          | (refine step_call (by rfl) 15 _ _ (by rfl) #[.agg #[.string n.kind, .string n.text, .slice a n.kids.length cap], .string stop] (by first | rfl | (simp [Act.eval]; done) | (simp [Act.eval, Act.put]; done)) (enters_of Tryz.func15 (by kernel_rfl) rfl) (specEvents_any stop 400 (Nat.le_refl _) HR.out HSZ.out _ w5 (HK3.out.later HI5.out.2)) ?_
             rintro e w6 ⟨r6, rfl, hb6, hown6⟩
             refine ⟨_, rfl, ?_⟩
             have HR1 : Hid (w6.ownsRow w3.heap.size 9 1 r5 (evs stop.toList 400 n).length ((evs stop.toList 400 n).map Value.string)) := Lib.hid (owns_kept HI5.out.1 hb6)
             have HR2 : Hid (w6.ownsRow w3.heap.size 9 1 r6 (evs stop.toList 400 n).length ((evs stop.toList 400 n).map Value.string)) := Lib.hid (own_mono hown6 h5z)
             have HB6 : Hid (Below w3.heap.size w3 w6) := Lib.hid (HDR.out.trans (HI5.out.2.trans (hb6.mono h5z)))
             clear hown6 hb6)
          | (refine step_call (by rfl) 15 _ _ (by rfl) #[.agg #[.string n.kind, .string n.text, .slice a n.kids.length cap], .string stop] (by first | rfl | (simp [Act.eval]; done) | (simp [Act.eval, Act.put]; done)) (enters_of Tryz.func15 (by kernel_rfl) rfl) (specEvents_any stop 400 (Nat.le_refl _) HR.out HSZ.out _ w3.drew HK3.out) ?_
             rintro e w5 ⟨r6, rfl, hb5, hown5⟩
             refine ⟨_, rfl, ?_⟩
             have h5z : w3.heap.size ≤ w5.heap.size := hb5.size
             have HS5 : Hid (w5.ownsRow w3.heap.size 9 1 r6 (evs stop.toList 400 n).length ((evs stop.toList 400 n).map Value.string) ∧ Below w3.drew.heap.size w3.drew w5) := Lib.hid ⟨hown5, hb5⟩
             have BN5 := HBN4.out.later hb5 hwd
             have d0 := BN5.cell 0 _ rfl
             have d1 := BN5.cell 1 _ rfl
             have d2 := BN5.cell 2 _ rfl
             have dn := BN5.lt
             clear BN5
             clear hown5 hb5)
          | (refine step_call (by rfl) 14 _ _ (by rfl) #[.agg #[.string n.kind, .string n.text, .slice a n.kids.length cap], .string stop] (by first | rfl | (simp [Act.eval]; done) | (simp [Act.eval, Act.put]; done)) (enters_of Tryz.func14 (by kernel_rfl) rfl) (events_any n _ stop w5 HS.out (HK3.out.later HS5.out.2) (HT3.out.below HS5.out.2 h03d) (by omega)) ?_
             rintro e w6 ⟨r5, rfl, hown6, hb6⟩
             refine ⟨_, rfl, ?_⟩
             have HR1 : Hid (w6.ownsRow w3.heap.size 9 1 r5 (evs stop.toList 400 n).length ((evs stop.toList 400 n).map Value.string)) := Lib.hid (own_mono hown6 h5z)
             have HR2 : Hid (w6.ownsRow w3.heap.size 9 1 r6 (evs stop.toList 400 n).length ((evs stop.toList 400 n).map Value.string)) := Lib.hid (owns_kept HS5.out.1 hb6)
             have HB6 : Hid (Below w3.heap.size w3 w6) := Lib.hid (HDR.out.trans (HS5.out.2.trans (hb6.mono h5z)))
             clear hown6 hb6)
          | (refine step_call (by rfl) 13 _ _ (by rfl) #[r5, r6] (by first | rfl | (simp [Act.eval]; done) | (simp [Act.eval, Act.put]; done)) (enters_of Tryz.func13 (by kernel_rfl) rfl) (eq_strings _ r5 r6 _ _ (by have := HLEN.out; omega) (row_texts HR1.out) (row_texts HR2.out)) ?_
             rintro e w7 ⟨rfl, q, rfl⟩
             refine ⟨_, rfl, ?_⟩))
        all_goals go_wp2_with fail
        all_goals go_ret
        all_goals exact ⟨rfl, (HB3.out.trans (HB6.out.mono HB3.out.size)).trans ⟨rfl, rfl, rfl, Nat.le_refl _, fun _ _ => rfl⟩⟩
    · have hst1 : ¬ (stop.size : Int) ≤ 2147483647 := by omega
      have hst2 : (2147483647 : Int) < (stop.size : Int) := by omega
      have hst3 : 2147483647 < stop.size := by omega
      go_wp2_with fail
      go_ret
      exact ⟨rfl, HBX.out⟩
end Go.Proofs.YtgadnenkkfkaaaaGreatFmt

/- What is proved here: the law FnExactNumbers answers true, whatever the declaration. -/
namespace Go.Proofs.YtgadnenkkfkaaaaGreatFmt
open Go.RowKit Go.Shelf
set_option linter.unusedVariables false
set_option linter.unusedSimpArgs false
attribute [local go_sem ↓] Go.wp_at_zero Go.wp_at_succ
theorem row_nums {w : World} {base n : Nat} {v : Value} {L : List Nat} (h : w.ownsRow base 3 1 v n (L.map nv)) : RowAt w 1 v n (fun i _ => .int .i64 ((L.getD i 0 : Nat) : Int)) := by
  have hn : L.length = n := by have := h.1; simpa using this
  refine (RowAt.of_owns h).congr fun i j hi hj => ?_
  have hj0 : j = 0 := by omega
  subst hj0
  have hi' : i < L.length := by omega
  simp [List.getD_eq_getElem?_getD, hi', nv]

set_option maxHeartbeats 4000000 in
set_option maxRecDepth 100000 in
theorem law_numbers (n : N) (v : Value) (w : World) (hk : KidsAt (· < w.heap.size) w v n.kids) (hT : TokTab w) (h0 : 0 < w.heap.size) :
    Calls Tryz.prog 6 #[n.val v] w fun e w' => e = .returned (.bool true) ∧ Below w.heap.size w w' := by
  obtain ⟨a, cap, rfl, hcap, _⟩ := hk.shape
  have BN : Blk (boxN w n (.slice a n.kids.length cap)) w.heap.size 24 #[Value.string n.kind, Value.string n.text, .slice a n.kids.length cap] := Blk.new w _ _
  have hbW : Below w.heap.size w (boxN w n (.slice a n.kids.length cap)) := (Below.refl w.heap.size w).alloc (Nat.le_refl _) _
  have hsw : w.heap.size + 1 ≤ (boxN w n (.slice a n.kids.length cap)).heap.size := by simp [boxN]
  have e0 := BN.cell 0 _ rfl
  have e1 := BN.cell 1 _ rfl
  have e2 := BN.cell 2 _ rfl
  have HBN := Lib.hid BN
  have HBW := Lib.hid hbW
  have HK := Lib.hid hk
  have HT := Lib.hid hT
  have H0 := Lib.hid h0
  clear BN hbW hk hT h0
  unfold N.val
  go_enter Tryz.func6, Tryz.ntmps6
  go_wp2_with fail
  simp only [boxN] at HBN HBW hsw e0 e1 e2
  generalize w.alloc (Obj.cells #[Value.string n.kind, Value.string n.text, .slice a n.kids.length cap] 24) = w1 at HBN HBW hsw e0 e1 e2 ⊢
  refine (fits1_any n a cap _).mono ?_
  rintro e w2 ⟨rfl, hb2⟩
  have hs2 := hb2.size
  have BN2 := HBN.out.later hb2 (by omega)
  have HBX := Lib.hid (HBW.out.trans (hb2.mono HBW.out.size))
  have d0 := BN2.cell 0 _ rfl
  have d1 := BN2.cell 1 _ rfl
  have d2 := BN2.cell 2 _ rfl
  have dn := BN2.lt
  have HBN2 := Lib.hid BN2
  clear BN2 hb2
  cases hf : fits1 n with
  | false =>
    clear hf
    go_wp2_with fail
    go_ret
    exact ⟨rfl, HBX.out⟩
  | true =>
    clear hf
    go_wp2_with fail
    refine (shaped_any n _ _ (HK.out.later HBX.out)).mono ?_
    rintro e w3 ⟨rfl, hb3⟩
    have hs3 := hb3.size
    have BN3 := HBN2.out.later hb3 (by omega)
    have HB3 := Lib.hid (HBX.out.trans (hb3.mono HBX.out.size))
    have d0 := BN3.cell 0 _ rfl
    have d1 := BN3.cell 1 _ rfl
    have d2 := BN3.cell 2 _ rfl
    have dn := BN3.lt
    have HBN3 := Lib.hid BN3
    clear BN3 hb3
    cases hs : shapedB n with
    | false =>
      clear hs
      go_wp2_with fail
      go_ret
      exact ⟨rfl, HB3.out⟩
    | true =>
      have HS := Lib.hid hs
      have hk3 := HK.out.later HB3.out
      have hT3 := HT.out.below HB3.out H0.out
      have h03 : 0 < w3.heap.size := by omega
      obtain ⟨C, t, b, hR⟩ := rep_of_shape hs hk3 hT3 h03
      have hsz := shaped_small hs
      have hlen : (nums 400 n).length ≤ 1600 := by
        have h1 := nums_le 400 n
        have h2 := kinds_le 400 hR
        omega
      have HSZ := Lib.hid hsz
      have HR := Lib.hid hR
      have HDR : Hid (Below w3.heap.size w3 w3.drew) := Lib.hid (Below.refl _ _).drew
      have HK3 := Lib.hid (hk3.later HDR.out)
      have HT3 := Lib.hid (hT3.below HDR.out h03)
      have HBN4 := Lib.hid (HBN3.out.later HDR.out (by omega))
      have h03d : 0 < w3.drew.heap.size := h03
      have hwd : w.heap.size < w3.drew.heap.size := (show w.heap.size < w3.heap.size by omega)
      have HLEN := Lib.hid hlen
      clear hs hk3 hT3 hR hsz hlen
      go_wp2_with fail
      go_region_law (first
        | (refine step_call (by rfl) 18 _ _ (by rfl) #[.agg #[.string n.kind, .string n.text, .slice a n.kids.length cap]] (by first | rfl | (simp [Act.eval]; done) | (simp [Act.eval, Act.put]; done)) (enters_of Tryz.func18 (by kernel_rfl) rfl) (numbers_any n _ w3.drew HS.out HK3.out HT3.out h03d) ?_
           rintro e w5 ⟨r5, rfl, hown5, hb5⟩
           refine ⟨_, rfl, ?_⟩
           have h5z : w3.heap.size ≤ w5.heap.size := hb5.size
           have HI5 : Hid (w5.ownsRow w3.heap.size 3 1 r5 (nums 400 n).length ((nums 400 n).map nv) ∧ Below w3.drew.heap.size w3.drew w5) := Lib.hid ⟨hown5, hb5⟩
           have BN5 := HBN4.out.later hb5 hwd
           have d0 := BN5.cell 0 _ rfl
           have d1 := BN5.cell 1 _ rfl
           have d2 := BN5.cell 2 _ rfl
           have dn := BN5.lt
           clear BN5
           clear hown5 hb5)
        | (refine step_call (by rfl) 19 _ _ (by rfl) #[.agg #[.string n.kind, .string n.text, .slice a n.kids.length cap]] (by first | rfl | (simp [Act.eval]; done) | (simp [Act.eval, Act.put]; done)) (enters_of Tryz.func19 (by kernel_rfl) rfl) (specNumbers_any 400 (Nat.le_refl _) HR.out HSZ.out _ w5 (HK3.out.later HI5.out.2)) ?_
           rintro e w6 ⟨r6, rfl, hb6, hown6⟩
           refine ⟨_, rfl, ?_⟩
           have HR1 : Hid (w6.ownsRow w3.heap.size 3 1 r5 (nums 400 n).length ((nums 400 n).map nv)) := Lib.hid (owns_kept HI5.out.1 hb6)
           have HR2 : Hid (w6.ownsRow w3.heap.size 3 1 r6 (nums 400 n).length ((nums 400 n).map nv)) := Lib.hid (own_mono hown6 h5z)
           have HB6 : Hid (Below w3.heap.size w3 w6) := Lib.hid (HDR.out.trans (HI5.out.2.trans (hb6.mono h5z)))
           clear hown6 hb6)
        | (refine step_call (by rfl) 19 _ _ (by rfl) #[.agg #[.string n.kind, .string n.text, .slice a n.kids.length cap]] (by first | rfl | (simp [Act.eval]; done) | (simp [Act.eval, Act.put]; done)) (enters_of Tryz.func19 (by kernel_rfl) rfl) (specNumbers_any 400 (Nat.le_refl _) HR.out HSZ.out _ w3.drew HK3.out) ?_
           rintro e w5 ⟨r6, rfl, hb5, hown5⟩
           refine ⟨_, rfl, ?_⟩
           have h5z : w3.heap.size ≤ w5.heap.size := hb5.size
           have HS5 : Hid (w5.ownsRow w3.heap.size 3 1 r6 (nums 400 n).length ((nums 400 n).map nv) ∧ Below w3.drew.heap.size w3.drew w5) := Lib.hid ⟨hown5, hb5⟩
           have BN5 := HBN4.out.later hb5 hwd
           have d0 := BN5.cell 0 _ rfl
           have d1 := BN5.cell 1 _ rfl
           have d2 := BN5.cell 2 _ rfl
           have dn := BN5.lt
           clear BN5
           clear hown5 hb5)
        | (refine step_call (by rfl) 18 _ _ (by rfl) #[.agg #[.string n.kind, .string n.text, .slice a n.kids.length cap]] (by first | rfl | (simp [Act.eval]; done) | (simp [Act.eval, Act.put]; done)) (enters_of Tryz.func18 (by kernel_rfl) rfl) (numbers_any n _ w5 HS.out (HK3.out.later HS5.out.2) (HT3.out.below HS5.out.2 h03d) (by omega)) ?_
           rintro e w6 ⟨r5, rfl, hown6, hb6⟩
           refine ⟨_, rfl, ?_⟩
           have HR1 : Hid (w6.ownsRow w3.heap.size 3 1 r5 (nums 400 n).length ((nums 400 n).map nv)) := Lib.hid (own_mono hown6 h5z)
           have HR2 : Hid (w6.ownsRow w3.heap.size 3 1 r6 (nums 400 n).length ((nums 400 n).map nv)) := Lib.hid (owns_kept HS5.out.1 hb6)
           have HB6 : Hid (Below w3.heap.size w3 w6) := Lib.hid (HDR.out.trans (HS5.out.2.trans (hb6.mono h5z)))
           clear hown6 hb6)
        | (refine step_call (by rfl) 17 _ _ (by rfl) #[r5, r6] (by first | rfl | (simp [Act.eval]; done) | (simp [Act.eval, Act.put]; done)) (enters_of Tryz.func17 (by kernel_rfl) rfl) (eq_ints _ r5 r6 _ _ (by have := HLEN.out; omega) (row_nums HR1.out) (row_nums HR2.out)) ?_
           rintro e w7 ⟨rfl, q, rfl⟩
           refine ⟨_, rfl, ?_⟩))
      all_goals go_wp2_with fail
      all_goals go_ret
      all_goals exact ⟨rfl, (HB3.out.trans (HB6.out.mono HB3.out.size)).trans ⟨rfl, rfl, rfl, Nat.le_refl _, fun _ _ => rfl⟩⟩
end Go.Proofs.YtgadnenkkfkaaaaGreatFmt

/- What is proved here: FnExactNumbersToldSaid: the law answers true for every input, and the input reads as it did: the told and tied card. Conditions: the listed tables lie as the program's text lays them (the card ties that). -/
namespace Go.Proofs.YtgadnenkkfkaaaaGreatFmt
open Go.ChangeShapes Go.WideShapes Go.ChangeAt Go.RowKit
open Go.ChangeMaps (open_string shut_string)
open Go.Extern.Stop Go.Stop Go.Extern
set_option linter.unusedVariables false

theorem laid_met (os : Os) (args : Array Value) : laidMetH Tryz.prog Rows.fnExactNumbersRow.laid ((World.laidAll Tryz.prog os Rows.fnExactNumbersRow.laid).forCall (fun _ _ => 0) ⟨#[], args, []⟩).memory := by
  rw [MakeChecks.laidMetH_plain _ _ _ (by kernel_rfl)]
  exact laidMet_laidAll _ (by kernel_rfl) (by kernel_rfl)
set_option maxRecDepth 100000 in
theorem lifted (os : Os) (started : os.Started) (H : Type) (enc : TypeId × Value → H) :
    ReturnsInTold none {} Tryz.checked os 6 .any Input.okWide ((OpenSpec.ofChange Rows.fnExactNumbersSpec).preRow enc Tryz.prog Tryz.f6 [] false Rows.fnExactNumbersRow.laid) (fun F => ((OpenSpec.ofChange Rows.fnExactNumbersSpec).at F).post enc Tryz.prog Tryz.f6 false true false false) (aloneAtReturn Tryz.prog) nothingAlways := by
  refine returnsInTold_of_row (C := Tryz.checked) (s := OpenSpec.ofChange Rows.fnExactNumbersSpec) (by kernel_rfl) own started (by kernel_rfl) Tryz.func6
    (fun F => ⟨World.laidAll Tryz.prog os Rows.fnExactNumbersRow.laid, F.over fun _ _ => 0, ⟨#[], #[.agg #[.string ⟨#[]⟩, .string ⟨#[]⟩, .slice none 0 0]], []⟩, World.laidAll_os _ _ _, World.shaped_of_ZipB (by kernel_rfl) (by kernel_rfl), rfl, (Input.okWide_of_okWideB (by kernel_rfl)).2,
      OpenSpec.preRow_of_B rfl 8 (by kernel_rfl) (by kernel_rfl) (laid_met os _), by
        simp only [Assume.holds]
        exact ⟨by simp, by simp, fun _ => F.over_modest Modest.zero, by simp, by simp⟩, F.over_answers _⟩) ?_
  intro F W base args ds gs before _ hF hval0 hW _ _ _ hL _
  have hval : ∀ (j : Nat) t v, Tryz.f6.params[j]? = some t → args[j]? = some v → Value.okWide Tryz.prog W .any base t v := hval0
  have hW' := hW
  obtain ⟨p, q, hA0, hV, rfl, hfz, hnd⟩ := hW
  have hA : DataW.TrodAll enc Tryz.prog W 0 (fun _ => true) true Tryz.f6.params.toList args.toList ds p := hA0
  have hlt := hA.lt
  rw [Tryz.params6] at hA hval
  obtain ⟨fs, f0, f1, f2, hu, _⟩ := underNode
  have hT : TokTab W ∧ 0 < W.heap.size := by
    have hL' := hL
    rw [MakeChecks.laidMetH_plain _ _ _ (by kernel_rfl)] at hL'
    exact toks_of_reads (Lib.laidMet.reads hL' (List.Mem.tail _ (List.Mem.tail _ (List.Mem.tail _ (List.Mem.head _)))))
  obtain ⟨v0, d0, hargs, rfl, h0⟩ := trodAll_one hA
  subst hargs
  obtain ⟨c0, rfl, hsz⟩ := okWide_struct hu (hval 0 24 v0 rfl rfl)
  have h0' := h0
  obtain ⟨fuel, h0⟩ := h0
  obtain ⟨n, v, hc, hk⟩ := open_node fuel h0
  have ec : c0 = #[.string n.kind, .string n.text, v] := Array.ext' hc
  subst ec
  have hlt0 : ∀ x ∈ p, x.block < W.heap.size := fun x hx => hlt x hx
  obtain ⟨g, hgs⟩ : ∃ g, gs = [g] := by
    obtain ⟨_, _, _, _, d, _, e, _⟩ := trodVars_one hV
    exact ⟨d, e⟩
  subst hgs
  refine (law_numbers n v W hk hT.1 hT.2).mono fun e W' ⟨he, hb⟩ => ?_
  subst he
  have hV' := Below.trodVars laidOut hb (by kernel_rfl) hV
  exact ⟨_, rfl, _, _, _, [], _, _, hW', trodAll_mk1 (shut_bool (by kernel_rfl) _), trodAll_mk1 (Below.trod laidOut (by kernel_rfl) (of_decide_eq_true (by kernel_rfl)) h0' hb hlt0), hV', hb.frame _, fun h => by cases h⟩
theorem told_holds : Rows.FnExactNumbersToldSaid :=
  Claim7.holds_of_told_tied_any_at .later 6 Tryz.f6 "fmt.Sprintf, its operands' methods called" [] [] _ _ _ _ _ (by kernel_rfl) rfl rfl rfl laidOut (by kernel_rfl) rfl ⟨rfl, rfl, rfl, rfl, rfl, rfl, rfl⟩ rfl rfl (by kernel_rfl) (by kernel_rfl) Tryz.func6 (by kernel_rfl)
    (of_decide_eq_true (by kernel_rfl)) (by unfold Func.isWrapper; first | (rw [if_pos (by decide +kernel)]; kernel_rfl) | (rw [if_neg (by decide +kernel)]; exact ⟨rfl, rfl⟩)) stops.symm rfl stopKnobs.symm (by kernel_rfl)
    (by kernel_rfl) (by kernel_rfl) (by kernel_rfl) (by kernel_rfl) (by kernel_rfl) (by kernel_rfl) (by kernel_rfl) (by kernel_rfl) (by kernel_rfl) rfl (by kernel_rfl) rfl rfl
    rfl rfl
    rfl (by kernel_rfl) (by kernel_rfl) (by kernel_rfl) (by decide) (by kernel_rfl) fnExactNumbers_row_tie
    (OpenClaim.moreEntering_of (by kernel_rfl) (by kernel_rfl) (by kernel_rfl) (by kernel_rfl) (by kernel_rfl) (by kernel_rfl) (by kernel_rfl) (by kernel_rfl) (by kernel_rfl) (by kernel_rfl))
    ⟨_, WideRow.started_initial, quiet _⟩
    (fun os started _ H enc _ => lifted os started H enc)
#print axioms told_holds
end Go.Proofs.YtgadnenkkfkaaaaGreatFmt

