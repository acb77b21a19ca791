/- What is proved here: spec.below, whole. Conditions: each theorem names its own. -/
import Derived.Test.YtpifflakohlglaaGreatFmtMj
set_option linter.all false
set_option linter.unusedVariables false
set_option linter.unusedSimpArgs false
/- What is proved here: rows that a call owns while it reads nodes in other blocks; what a walk over spec.below keeps. -/
namespace Go.Proofs.YtpifflakohlglaaGreatFmt
open Go.RowKit Go.Shelf
set_option linter.unusedVariables false
set_option linter.unusedSimpArgs false

theorem own_block_lt {w : World} {base e size n : Nat} {v : Value} {xs : List Value} (h : w.ownsRow base e size v n xs) : ∀ g, v.ownBlock = some g → base ≤ g ∧ g < w.heap.size := fun g hg => h.lt g hg
/-- A tree read in blocks of which ok holds lies there still when a row in another block has grown. -/
theorem KidsAt.grown {ok : Nat → Prop} {w w' : World} {u v : Value} {ks : List N} (h : KidsAt ok w u ks) (hg : w.grownBy w' v.ownBlock) (hlt : ∀ b, ok b → b < w.heap.size) (hne : ∀ g, v.ownBlock = some g → ¬ ok g) : KidsAt ok w' u ks :=
  h.same fun b hb => hg.block b (hlt b hb) fun e => hne b e.symm hb
/-- The row of one new block. -/
theorem own_new1 (w : World) (x : Value) (T e : Nat) (hT : T = e) : (w.alloc (.cells #[x] T)).ownsRow w.heap.size e 1 (.slice (some ⟨w.heap.size, 0, none⟩) 1 1) 1 [x] := by
  subst hT
  exact ⟨rfl, .inr ⟨_, 1, #[x], rfl, Nat.le_refl _, heap_alloc_new _ _, Nat.le_refl _, by decide, rfl, rfl⟩⟩
/-- The cells of an owned row, as append reads them. -/
theorem row_news {w : World} {base e size n : Nat} {v : Value} {xs : List Value} (h : w.ownsRow base e size v n xs) : ∃ ax c, v = .slice ax n c ∧ ∀ j y, xs[j]? = some y → ∃ p, ax = some p ∧ w.cell? (p.add j) = some y := by
  rcases h.2 with ⟨rfl, h0⟩ | ⟨g, cap, cur, rfl, hb, hcur, hn, hcap, hsz, htk⟩
  · have hn : n = 0 := by simpa using h0
    subst hn
    have hx : xs = [] := by simpa using h.1
    subst hx
    exact ⟨_, _, rfl, fun j y hj => by simp at hj⟩
  · exact ⟨_, cap, rfl, fun j y hj => ⟨_, rfl, h.cells rfl j y hj⟩⟩
theorem take_fm {α β : Type} {l : List α} {j : Nat} {x : α} (g : α → List β) (h : l[j]? = some x) : (l.take (j + 1)).flatMap g = (l.take j).flatMap g ++ g x := by
  rw [List.take_add_one, h]
  simp [List.flatMap_append]
/-- What a loop over the nodes below one keeps: a row that it owns, and the nodes as they read, in other blocks. -/
structure RowRel (ok : Nat → Prop) (w : World) (lo : Nat) (kv : Value) (ks : List N) (e size n : Nat) (xs : List Value) (out : Value) (wr : World) : Prop where
  own : wr.ownsRow w.heap.size e size out n xs
  kids : KidsAt ok wr kv ks
  off : ∀ g, out.ownBlock = some g → ¬ ok g
  low : Below w.heap.size w wr
  hi : lo ≤ wr.heap.size
theorem RowRel.later {ok : Nat → Prop} {w wr w' : World} {lo : Nat} {kv : Value} {ks : List N} {e size n : Nat} {xs : List Value} {out : Value} (h : RowRel ok w lo kv ks e size n xs out wr) (hok : ∀ b, ok b → b < lo) (hb : Below wr.heap.size wr w') :
    RowRel ok w lo kv ks e size n xs out w' :=
  ⟨owns_kept h.own hb, h.kids.same fun b hx => hb.block b (Nat.lt_of_lt_of_le (hok b hx) h.hi), h.off, h.low.trans (hb.mono h.low.size), Nat.le_trans h.hi hb.size⟩
theorem RowRel.app {ok : Nat → Prop} {w wr w' : World} {lo : Nat} {kv : Value} {ks : List N} {e size n n' : Nat} {xs ys : List Value} {out out' : Value} (h : RowRel ok w lo kv ks e size n xs out wr) (hok : ∀ b, ok b → b < lo)
    (hown' : w'.ownsRow w.heap.size e size out' n' ys) (hg : wr.grownBy w' out.ownBlock) (hb : out'.ownBlock = out.ownBlock ∨ ∃ g, out'.ownBlock = some g ∧ wr.heap.size ≤ g) : RowRel ok w lo kv ks e size n' ys out' w' := by
  refine ⟨hown', h.kids.grown hg (fun b hx => Nat.lt_of_lt_of_le (hok b hx) h.hi) h.off, fun g hgo hx => ?_, h.low.grown hg h.low.size (fun k hk => (h.own.lt k hk).1), Nat.le_trans h.hi hg.size⟩
  rcases hb with hb | ⟨g', hb, hle⟩
  · exact h.off g (hb ▸ hgo) hx
  · rw [hb] at hgo
    have := Option.some.inj hgo
    have := hok g hx
    have := h.hi
    omega
theorem fm_take_le {α β : Type} (g : α → List β) (l : List α) (j : Nat) : ((l.take j).flatMap g).length ≤ (l.flatMap g).length := by
  have h := congrArg (fun l => (l.flatMap g).length) (List.take_append_drop j l)
  simp only [List.flatMap_append, List.length_append] at h
  omega
theorem subs_len {C : Nat → Nat → Value → Prop} {n : N} {t b : Nat} (h : Rep C n (Nd t b)) (hn : n.size ≤ 400) : (subs n).length ≤ 1000000 := by
  have h1 := h.tot_below
  have h2 : ∀ l : List N, l.length ≤ tot l := by
    intro l
    induction l with
    | nil => simp
    | cons x r ih => have := N.size_eq x; simp only [List.length_cons, tot]; omega
  have := h2 (subs n)
  omega
theorem evs_le (stop : List UInt8) (f : Nat) : ∀ n, (evs stop f n).length ≤ 2 * (kinds f n).length := by
  induction f with
  | zero => intro n; simp [evs, kinds]
  | succ f ih =>
    intro n
    simp only [evs, kinds, List.length_cons]
    have h : ∀ l : List N, (l.flatMap (evs stop f)).length ≤ 2 * (l.flatMap (kinds f)).length := by
      intro l
      induction l with
      | nil => simp
      | cons x r ihr => rw [List.flatMap_cons, List.flatMap_cons, List.length_append, List.length_append]; have := ih x; omega
    split
    · simp; omega
    · have := h (subs n)
      simp only [List.length_append, List.length_cons, List.length_nil]
      omega
end Go.Proofs.YtpifflakohlglaaGreatFmt

/- What is proved here: spec.below, of a function. -/
namespace Go.Proofs.YtpifflakohlglaaGreatFmt
open Go.RowKit Go.Shelf
set_option linter.unusedVariables false
set_option linter.unusedSimpArgs false
attribute [local go_sem ↓] Go.wp_at_zero Go.wp_at_succ

set_option maxHeartbeats 8000000 in
set_option maxRecDepth 100000 in
theorem bel_func (B : Nat) (n x y z : N) (v : Value) (w : World) (hB : B ≤ w.heap.size) (hkd : n.kind.toList = [102, 117, 110, 99]) (h0 : n.kids = [x, y, z]) (hsz : N.sizes [y, z] ≤ 1000000) (hk : KidsAt (· < B) w v n.kids) :
    Calls Tryz.prog 23 #[n.val v] w (BelPost B w (here x ++ identN n.text :: [y, z].flatMap flat)) := by
  obtain ⟨b, o, cap, a2, cap2, rfl, hcap, hb0, c0, c1, c2, hV⟩ := hk.kid0 h0
  have hb : b < w.heap.size := Nat.lt_of_lt_of_le hb0 hB
  have hlen : n.kids.length = 3 := by rw [h0]; rfl
  rw [hlen] at hcap hk ⊢
  have hcapi : (3 : Int) ≤ (cap : Int) := by omega
  have htl : KidsAt (· < B) w (.slice (some ⟨b, o + 3, none⟩) 2 (cap - 1)) [y, z] := hk.tail' h0 (some ⟨b, o + 3, none⟩) 2 (cap - 1) rfl (fun _ => rfl) (by simp; omega)
  have HTL := Lib.hid htl
  have BN : Blk (boxN w n (Value.slice (some ⟨b, o, none⟩) 3 cap)) w.heap.size 24 #[Value.string n.kind, Value.string n.text, Value.slice (some ⟨b, o, none⟩) 3 cap] := Blk.new w _ _
  have hbW : Below w.heap.size w (boxN w n (Value.slice (some ⟨b, o, none⟩) 3 cap)) := (Below.refl w.heap.size w).alloc (Nat.le_refl _) _
  have hsw : w.heap.size + 1 ≤ (boxN w n (Value.slice (some ⟨b, o, none⟩) 3 cap)).heap.size := by simp [boxN]
  have HV := Lib.hid hV
  have nb := World.new_ne w ⟨b, o, none⟩ c0
  have HC := Lib.hid (And.intro c0 (And.intro c1 c2))
  have HBN := Lib.hid BN
  have HBW := Lib.hid hbW
  have HSZ := Lib.hid hsz
  clear hV hk h0 hlen BN hbW htl hsz
  unfold N.val
  go_enter Tryz.func23, Tryz.ntmps23
  go_wp2_with fail
  simp only [boxN] at HBN HBW hsw
  generalize w.alloc (Obj.cells #[Value.string n.kind, Value.string n.text, Value.slice (some ⟨b, o, none⟩) 3 cap] 24) = w1 at HBN HBW hsw ⊢
  refine (missing_raw x a2 _ cap2 _ rfl).mono ?_
  rintro e w2 ⟨rfl, hb2⟩
  have hbx := HBW.out.trans (hb2.mono HBW.out.size)
  have s2 := hb2.size
  have BN2 := HBN.out.later hb2 (by omega)
  have e1 := BN2.cell 1 _ rfl
  have en := BN2.lt
  have c0 := (hbx.cell (p := ⟨b, o, none⟩) hb).trans HC.out.1
  have c1 := (hbx.cell (p := ⟨b, o + 1, none⟩) hb).trans HC.out.2.1
  have c2 := (hbx.cell (p := ⟨b, o + 2, none⟩) hb).trans HC.out.2.2
  have HOW : Hid (Own3 B w1 w2 (.slice none 0 0) []) := Lib.hid (.nil hb2 (by omega))
  have HBX := Lib.hid hbx
  have HB2 := Lib.hid BN2
  clear hb2 hbx BN2
  cases hm : missing x with
  | true =>
    have hh : here x = [] := by simp [here, hm]
    rw [hh]
    go_wp2_with fail
    refine (ident_raw _ _).mono ?_
    rintro e w3 ⟨rfl, hb3⟩
    have HO3 := Lib.hid (HOW.out.later hb3)
    clear hb3
    go_wp2_with (at_builtin; refine wpl_app_one rfl (.tmp 82) (.tmp 86) rfl (.slice none 0 0) [] rfl (identN n.text) (.slice none 0 0) rfl HO3.out (.nil none 0) (by simp) ?_; intro v4 w4 hO4; have HO4 := Lib.hid hO4; clear hO4)
    obtain ⟨aS, capS, hvS, hcapS, helS⟩ := HTL.out.shape
    have HEL := Lib.hid helS
    simp only [Value.slice.injEq] at hvS
    obtain ⟨rfl, _, rfl⟩ := hvS
    clear helS
    go_loopw [92, 3] (fun vi out wr => ∃ j : Nat, j ≤ 2 ∧ vi = .int .i64 j ∧ Own3 B w1 wr out ([identN n.text] ++ (([y, z]).take j).flatMap flat)) (fun vi _ _ => 2 - (intOf vi).toNat)
    case atStart => exact ⟨0, Nat.zero_le _, rfl, by simpa using HO4.out⟩
    case round =>
      obtain ⟨j, hj, rfl, hO⟩ := hrel
      have hsr : w1.heap.size ≤ wr.heap.size := hO.low.size
      have hbr := HBW.out.trans (hO.low.mono HBW.out.size)
      have hll : ([identN n.text] ++ (([y, z]).take j).flatMap flat).length ≤ 1500000 := by
        have h1 := fm_len (([y, z]).take j)
        have h2 := sizes_take ([y, z]) j
        have h3 := HSZ.out
        rw [List.length_append]
        simp only [List.length_cons, List.length_nil]
        omega
      have HLL := Lib.hid hll
      clear hll
      by_cases hjl : j < 2
      · have hjl' : (j : Int) < ((2 : Nat) : Int) := by omega
        obtain ⟨x, hget⟩ : ∃ x, ([y, z])[j]? = some x := ⟨_, List.getElem?_eq_getElem (by simpa using hjl)⟩
        obtain ⟨bb, oo, V, hae, hbb, c0, c1, c2, hV⟩ := HEL.out j _ hget
        have hstep := fm_take hget
        have hxlen := flat_len x
        have hxs := N.sizes_at hget
        have HSTEP := Lib.hid hstep
        clear hstep hget
        simp only [Option.some.injEq, Addr.mk.injEq, and_true] at hae
        obtain ⟨rfl, rfl⟩ := hae
        obtain ⟨a2, cap2, rfl, _, _⟩ := hV.shape
        have hbw : b < w.heap.size := Nat.lt_of_lt_of_le hbb hB
        have c0 := (hbr.cell (p := ⟨b, (o + 3) + j * 3, none⟩) hbw).trans c0
        have c1 := (hbr.cell (p := ⟨b, (o + 3) + j * 3 + 1, none⟩) hbw).trans c1
        have c2 := (hbr.cell (p := ⟨b, (o + 3) + j * 3 + 2, none⟩) hbw).trans c2
        have hbx : Below wr.heap.size wr (boxN wr x (.slice a2 x.kids.length cap2)) := (Below.refl wr.heap.size wr).alloc (Nat.le_refl _) _
        have hbn : wr.heap.size + 1 ≤ (wr.alloc (Obj.cells #[Value.string x.kind, Value.string x.text, Value.slice a2 x.kids.length cap2] 24)).heap.size := by simp
        have HO := Lib.hid (hO.later hbx)
        have HV := Lib.hid (hV.under ((hbr.trans (hbx.mono (by omega))).mono hB))
        have BXN : Blk (boxN wr x (.slice a2 x.kids.length cap2)) wr.heap.size 24 #[Value.string x.kind, Value.string x.text, .slice a2 x.kids.length cap2] := Blk.new wr _ _
        have HBXN := Lib.hid BXN
        have HXS := Lib.hid (And.intro hxlen hxs)
        clear hV hbx hO BXN hbr hxlen hxs
        cases hl : (x.kind.toList == [108, 105, 115, 116]) with
        | true =>
          have hfl : flat x = x.kids := flat_list (by simp [isK, hl])
          have hml : x.kids.length ≤ 1500000 := by have := HXS.out.1; rw [hfl] at this; have := HXS.out.2; have := HSZ.out; omega
          rw [hfl] at HSTEP
          have HML := Lib.hid hml
          clear hfl hml
          go_wp2_with (at_builtin; refine wpl_app_kids rfl (.tmp 100) (.tmp 102) rfl _ _ x.kids rfl _ rfl HO.out HV.out (by have := HLL.out; have := HML.out; omega) ?_; intro v4 w4 hO4; have HO4 := Lib.hid hO4; clear hO4)
          go_roundw
          case rel => exact ⟨j + 1, by omega, by go_num, by rw [HSTEP.out, ← List.append_assoc]; exact HO4.out⟩
          case measure => simp [intOf]; omega
        | false =>
          have hl2 : isK x [108, 105, 115, 116] = false := hl
          go_wp2_with fail
          refine (missing_raw x a2 _ cap2 _ rfl).mono ?_
          rintro e w3 ⟨rfl, hb3⟩
          have HO3 := Lib.hid (HO.out.later hb3)
          have HV3 := Lib.hid (HV.out.under (hb3.mono (by omega)))
          have BX3 := HBXN.out.later hb3 (by omega)
          have d0 := BX3.cell 0 _ rfl
          have d1 := BX3.cell 1 _ rfl
          have d2 := BX3.cell 2 _ rfl
          have dn := BX3.lt
          clear hb3 BX3
          cases hm : missing x with
          | true =>
            have hfl : flat x = [] := flat_missing hm
            rw [hfl] at HSTEP
            clear hfl
            go_wp2_with fail
            go_roundw
            case rel => exact ⟨j + 1, by omega, by go_num, by rw [HSTEP.out, List.append_nil]; exact HO3.out⟩
            case measure => simp [intOf]; omega
          | false =>
            have hfl : flat x = [x] := by simp [flat, hl2, hm]
            rw [hfl] at HSTEP
            clear hfl
            go_wp2_with (at_builtin; refine wpl_app_one rfl (.tmp 108) (.tmp 110) rfl _ _ rfl x _ rfl HO3.out HV3.out (by have := HLL.out; omega) ?_; intro v4 w4 hO4; have HO4 := Lib.hid hO4; clear hO4)
            go_roundw
            case rel => exact ⟨j + 1, by omega, by go_num, by rw [HSTEP.out, ← List.append_assoc]; exact HO4.out⟩
            case measure => simp [intOf]; omega
      · have e : j = 2 := by omega
        have HOE := Lib.hid hO
        clear hO hbr
        subst e
        go_wp2_with fail
        go_ret
        have hfin := HOE.out
        rw [show ([y, z]).take (2) = [y, z] from List.take_of_length_le (Nat.le_refl _)] at hfin
        rw [hh]
        exact hfin.bel1 HBW.out
  | false =>
    have hh : here x = [x] := by simp [here, hm]
    rw [hh]
    have HVx := Lib.hid (HV.out.under (HBX.out.mono hB))
    go_wp2_with (at_builtin; refine wpl_app_one rfl (.tmp 76) (.tmp 80) rfl (.slice none 0 0) [] rfl x _ rfl HOW.out HVx.out (by simp) ?_; intro v4 w4 hO4; have e1 := ((HBN.out.later hO4.low (by omega))).cell 1 _ rfl; have en := (HBN.out.later hO4.low (by omega)).lt; have HO4 := Lib.hid hO4; clear hO4)
    refine (ident_raw _ _).mono ?_
    rintro e w5 ⟨rfl, hb5⟩
    have HO5 := Lib.hid (HO4.out.later hb5)
    clear hb5
    go_wp2_with (at_builtin; refine wpl_app_one rfl (.tmp 82) (.tmp 86) rfl v4 [x] rfl (identN n.text) (.slice none 0 0) rfl HO5.out (.nil none 0) (by simp) ?_; intro v6 w6 hO6; have HO6 := Lib.hid hO6; clear hO6)
    obtain ⟨aS, capS, hvS, hcapS, helS⟩ := HTL.out.shape
    have HEL := Lib.hid helS
    simp only [Value.slice.injEq] at hvS
    obtain ⟨rfl, _, rfl⟩ := hvS
    clear helS
    go_loopw [92, 3] (fun vi out wr => ∃ j : Nat, j ≤ 2 ∧ vi = .int .i64 j ∧ Own3 B w1 wr out ([x, identN n.text] ++ (([y, z]).take j).flatMap flat)) (fun vi _ _ => 2 - (intOf vi).toNat)
    case atStart => exact ⟨0, Nat.zero_le _, rfl, by simpa using HO6.out⟩
    case round =>
      obtain ⟨j, hj, rfl, hO⟩ := hrel
      have hsr : w1.heap.size ≤ wr.heap.size := hO.low.size
      have hbr := HBW.out.trans (hO.low.mono HBW.out.size)
      have hll : ([x, identN n.text] ++ (([y, z]).take j).flatMap flat).length ≤ 1500000 := by
        have h1 := fm_len (([y, z]).take j)
        have h2 := sizes_take ([y, z]) j
        have h3 := HSZ.out
        rw [List.length_append]
        simp only [List.length_cons, List.length_nil]
        omega
      have HLL := Lib.hid hll
      clear hll
      by_cases hjl : j < 2
      · have hjl' : (j : Int) < ((2 : Nat) : Int) := by omega
        obtain ⟨x, hget⟩ : ∃ x, ([y, z])[j]? = some x := ⟨_, List.getElem?_eq_getElem (by simpa using hjl)⟩
        obtain ⟨bb, oo, V, hae, hbb, c0, c1, c2, hV⟩ := HEL.out j _ hget
        have hstep := fm_take hget
        have hxlen := flat_len x
        have hxs := N.sizes_at hget
        have HSTEP := Lib.hid hstep
        clear hstep hget
        simp only [Option.some.injEq, Addr.mk.injEq, and_true] at hae
        obtain ⟨rfl, rfl⟩ := hae
        obtain ⟨a2, cap2, rfl, _, _⟩ := hV.shape
        have hbw : b < w.heap.size := Nat.lt_of_lt_of_le hbb hB
        have c0 := (hbr.cell (p := ⟨b, (o + 3) + j * 3, none⟩) hbw).trans c0
        have c1 := (hbr.cell (p := ⟨b, (o + 3) + j * 3 + 1, none⟩) hbw).trans c1
        have c2 := (hbr.cell (p := ⟨b, (o + 3) + j * 3 + 2, none⟩) hbw).trans c2
        have hbx : Below wr.heap.size wr (boxN wr x (.slice a2 x.kids.length cap2)) := (Below.refl wr.heap.size wr).alloc (Nat.le_refl _) _
        have hbn : wr.heap.size + 1 ≤ (wr.alloc (Obj.cells #[Value.string x.kind, Value.string x.text, Value.slice a2 x.kids.length cap2] 24)).heap.size := by simp
        have HO := Lib.hid (hO.later hbx)
        have HV := Lib.hid (hV.under ((hbr.trans (hbx.mono (by omega))).mono hB))
        have BXN : Blk (boxN wr x (.slice a2 x.kids.length cap2)) wr.heap.size 24 #[Value.string x.kind, Value.string x.text, .slice a2 x.kids.length cap2] := Blk.new wr _ _
        have HBXN := Lib.hid BXN
        have HXS := Lib.hid (And.intro hxlen hxs)
        clear hV hbx hO BXN hbr hxlen hxs
        cases hl : (x.kind.toList == [108, 105, 115, 116]) with
        | true =>
          have hfl : flat x = x.kids := flat_list (by simp [isK, hl])
          have hml : x.kids.length ≤ 1500000 := by have := HXS.out.1; rw [hfl] at this; have := HXS.out.2; have := HSZ.out; omega
          rw [hfl] at HSTEP
          have HML := Lib.hid hml
          clear hfl hml
          go_wp2_with (at_builtin; refine wpl_app_kids rfl (.tmp 100) (.tmp 102) rfl _ _ x.kids rfl _ rfl HO.out HV.out (by have := HLL.out; have := HML.out; omega) ?_; intro v4 w4 hO4; have HO4 := Lib.hid hO4; clear hO4)
          go_roundw
          case rel => exact ⟨j + 1, by omega, by go_num, by rw [HSTEP.out, ← List.append_assoc]; exact HO4.out⟩
          case measure => simp [intOf]; omega
        | false =>
          have hl2 : isK x [108, 105, 115, 116] = false := hl
          go_wp2_with fail
          refine (missing_raw x a2 _ cap2 _ rfl).mono ?_
          rintro e w3 ⟨rfl, hb3⟩
          have HO3 := Lib.hid (HO.out.later hb3)
          have HV3 := Lib.hid (HV.out.under (hb3.mono (by omega)))
          have BX3 := HBXN.out.later hb3 (by omega)
          have d0 := BX3.cell 0 _ rfl
          have d1 := BX3.cell 1 _ rfl
          have d2 := BX3.cell 2 _ rfl
          have dn := BX3.lt
          clear hb3 BX3
          cases hm : missing x with
          | true =>
            have hfl : flat x = [] := flat_missing hm
            rw [hfl] at HSTEP
            clear hfl
            go_wp2_with fail
            go_roundw
            case rel => exact ⟨j + 1, by omega, by go_num, by rw [HSTEP.out, List.append_nil]; exact HO3.out⟩
            case measure => simp [intOf]; omega
          | false =>
            have hfl : flat x = [x] := by simp [flat, hl2, hm]
            rw [hfl] at HSTEP
            clear hfl
            go_wp2_with (at_builtin; refine wpl_app_one rfl (.tmp 108) (.tmp 110) rfl _ _ rfl x _ rfl HO3.out HV3.out (by have := HLL.out; omega) ?_; intro v4 w4 hO4; have HO4 := Lib.hid hO4; clear hO4)
            go_roundw
            case rel => exact ⟨j + 1, by omega, by go_num, by rw [HSTEP.out, ← List.append_assoc]; exact HO4.out⟩
            case measure => simp [intOf]; omega
      · have e : j = 2 := by omega
        have HOE := Lib.hid hO
        clear hO hbr
        subst e
        go_wp2_with fail
        go_ret
        have hfin := HOE.out
        rw [show ([y, z]).take (2) = [y, z] from List.take_of_length_le (Nat.le_refl _)] at hfin
        rw [hh]
        exact hfin.bel1 HBW.out
end Go.Proofs.YtpifflakohlglaaGreatFmt

/- What is proved here: spec.below, of a field. -/
namespace Go.Proofs.YtpifflakohlglaaGreatFmt
open Go.RowKit Go.Shelf
set_option linter.unusedVariables false
set_option linter.unusedSimpArgs false
attribute [local go_sem ↓] Go.wp_at_zero Go.wp_at_succ

theorem Own3.from {B : Nat} {w0 w1 w' : World} {v : Value} {L : List N} (h : Own3 B w1 w' v L) (hb : Below w0.heap.size w0 w1) (hB : B ≤ w0.heap.size) : Own3 B w0 w' v L := by
  obtain ⟨⟨xs, h1, h2⟩, hl, _⟩ := h
  exact ⟨⟨xs, own_mono h1 hb.size, h2⟩, hb.trans (hl.mono hb.size), hB⟩
/-- The cells of a node in a block of its own, a while ago. -/
def NewNode (w : World) (g : Nat) (k t V : Value) : Prop := ∀ j u, [k, t, V][j]? = some u → w.cell? ((⟨g, 0, none⟩ : Addr).add j) = some u
theorem new_node3 {w w' : World} {x : N} {V : Value} (h : Below (boxN w x V).heap.size (boxN w x V) w') : NewNode w' w.heap.size (.string x.kind) (.string x.text) V := by
  intro j u hj
  obtain ⟨p, hp, hc⟩ := one_news (w := w) (.string x.kind) (.string x.text) V j u hj
  cases hp
  rw [add_off] at hc ⊢
  exact cell_keep h hc
theorem step_app_old {ops : Array Oper} {o : Oper} {a : Act} {B : Nat} {w0 w : World} {K : Act → World → Prop} {Q : Exit → Act → World → Prop} {E : Prop} (hgd : o.guard = none) (s x : Operand)
    (ho : o.op = .call { callee := .builtin .append, args := #[s, x], argTypes := #[22, 22] }) (v : Value) (L : List N) (hs : a.eval s = v) (m : N) {V : Value} {g : Nat} (c : Nat) (hx : a.eval x = .slice (some ⟨g, 0, none⟩) 1 c) (hown : Own3 B w0 w v L)
    (hV : KidsAt (· < B) w V m.kids) (hnew : NewNode w g (.string m.kind) (.string m.text) V) (hlen : L.length ≤ 2000000)
    (h : ∀ v' w', Own3 B w0 w' v' (L ++ [m]) → K (a.put o.dst v') w') : if Region.wanted o (yielded ops a.tmps) = true then Oper.wp Tryz.prog o a w K Q else E := by
  obtain ⟨i0, hi, hz0, hz1, hz2⟩ := info_parts info24
  obtain ⟨⟨xs, h1, h2⟩, hl, hB⟩ := hown
  have hy : Cells B w [m] [.string m.kind, .string m.text, V] := Cells.one hV
  refine step_append_lies w hgd s x 22 ho w0.heap.size 24 i0 (.agg #[.string ⟨#[]⟩, .string ⟨#[]⟩, .slice none 0 0]) 3 56 under22 hi hz0 hz1 hz2 rfl (by decide) v L.length xs hs h1 ⟨g, 0, none⟩ 1 c _ hx rfl hnew hy.ones (by decide) (by unfold maxLen; omega) (by omega) hl.size w.heap.size rfl fun g' cap w' h3 h4 _ _ => h _ w' ?_
  exact Own3.app ⟨⟨xs, h1, h2⟩, hl, hB⟩ h1 h2 hy h3 (by simp) h4
theorem step_app_one {ops : Array Oper} {o : Oper} {a : Act} {B : Nat} {w0 w : World} {K : Act → World → Prop} {Q : Exit → Act → World → Prop} {E : Prop} (hgd : o.guard = none) (s x : Operand)
    (ho : o.op = .call { callee := .builtin .append, args := #[s, x], argTypes := #[22, 22] }) (v : Value) (L : List N) (hs : a.eval s = v) (m : N) {V : Value} (c : Nat) (hx : a.eval x = .slice (some ⟨w.heap.size, 0, none⟩) 1 c) (hown : Own3 B w0 w v L)
    (hV : KidsAt (· < B) w V m.kids) (hlen : L.length ≤ 2000000)
    (h : ∀ v' w', Own3 B w0 w' v' (L ++ [m]) → K (a.put o.dst v') w') : if Region.wanted o (yielded ops a.tmps) = true then Oper.wp Tryz.prog o a (w.alloc (.cells #[.string m.kind, .string m.text, V] 24)) K Q else E := by
  have hb : Below w.heap.size w (boxN w m V) := (Below.refl w.heap.size w).alloc (Nat.le_refl _) _
  exact step_app_old hgd s x ho v L hs m c hx (hown.later hb) (hV.under (hb.mono (Nat.le_trans hown.le hown.low.size))) (new_node3 (Below.refl _ _)) hlen h

set_option maxHeartbeats 8000000 in
set_option maxRecDepth 100000 in
theorem bel_field_cn (B : Nat) (n x : N) (r : List N) (b o cap : Nat) (a2 : Option Addr) (cap2 : Nat) (w : World) (hB : B ≤ w.heap.size) (hkd : n.kind.toList = [102, 105, 101, 108, 100]) (htx : n.text.toList.isEmpty = true) (hr : r.length ≤ 1000000) (hr0 : r = []) (hb : b < w.heap.size)
    (c0 : w.cell? ⟨b, o, none⟩ = some (.string x.kind)) (c1 : w.cell? ⟨b, o + 1, none⟩ = some (.string x.text)) (c2 : w.cell? ⟨b, o + 2, none⟩ = some (.slice a2 x.kids.length cap2)) (hV : KidsAt (· < B) w (.slice a2 x.kids.length cap2) x.kids)
    (hT : KidsAt (· < B) w (.slice (some ⟨b, o, none⟩) 0 0) r) :
    Calls Tryz.prog 23 #[.agg #[.string n.kind, .string n.text, .slice (some ⟨b, o, none⟩) 1 1]] w (BelPost B w (r ++ [x])) := by
  subst hr0
  have BN : Blk (boxN w n (Value.slice (some ⟨b, o, none⟩) 1 1)) w.heap.size 24 #[Value.string n.kind, Value.string n.text, Value.slice (some ⟨b, o, none⟩) 1 1] := Blk.new w _ _
  have hbW : Below w.heap.size w (boxN w n (Value.slice (some ⟨b, o, none⟩) 1 1)) := (Below.refl w.heap.size w).alloc (Nat.le_refl _) _
  have hsw : w.heap.size + 1 ≤ (boxN w n (Value.slice (some ⟨b, o, none⟩) 1 1)).heap.size := by simp [boxN]
  have HV := Lib.hid hV
  have nb := World.new_ne w ⟨b, o, none⟩ c0
  have HC := Lib.hid (And.intro c0 (And.intro c1 c2))
  have HBN := Lib.hid BN
  have HBW := Lib.hid hbW
  have HT := Lib.hid hT
  have HRL := Lib.hid hr
  have hte : n.text.toList = [] := by simpa using htx
  clear hV hT BN hbW hr htx
  go_enter Tryz.func23, Tryz.ntmps23
  go_wp2_with fail
  simp only [boxN] at HBN HBW hsw
  generalize w.alloc (Obj.cells #[Value.string n.kind, Value.string n.text, Value.slice (some ⟨b, o, none⟩) 1 1] 24) = w1 at HBN HBW hsw ⊢
  have c0 := (HBW.out.cell (p := ⟨b, o, none⟩) hb).trans HC.out.1
  have c1 := (HBW.out.cell (p := ⟨b, o + 1, none⟩) hb).trans HC.out.2.1
  have c2 := (HBW.out.cell (p := ⟨b, o + 2, none⟩) hb).trans HC.out.2.2
  have lb : b < w1.heap.size := by omega
  have HDR : Hid (Below w1.heap.size w1 w1.drew) := Lib.hid (Below.refl _ _).drew
  have HV1 := Lib.hid ((HV.out.under (HBW.out.mono hB)).under (HDR.out.mono (by omega)))
  have HT1 := Lib.hid ((HT.out.under (HBW.out.mono hB)).under (HDR.out.mono (by omega)))
  have hB1 : B ≤ w1.heap.size := by omega
  have HBX : Hid (Below w1.drew.heap.size w1.drew (boxN w1.drew x (.slice a2 x.kids.length cap2))) := Lib.hid ((Below.refl w1.drew.heap.size w1.drew).alloc (Nat.le_refl _) _)
  go_region_law (first
        | (refine step_call (by rfl) 53 _ _ (by rfl) #[(.slice (some ⟨b, o, none⟩) 0 0)] (by first | rfl | (simp [Act.eval]; done) | (simp [Act.eval, Act.put]; done)) (enters_of Tryz.func53 (by kernel_rfl) rfl) (clone_any B [] _ w1.drew hB1 (by have := HRL.out; simp) HT1.out) ?_
           rintro e w3 ⟨v3, rfl, hO3⟩
           refine ⟨_, rfl, ?_⟩
           have c0 := (hO3.low.cell (p := ⟨b, o, none⟩) lb).trans c0
           have c1 := (hO3.low.cell (p := ⟨b, o + 1, none⟩) lb).trans c1
           have c2 := (hO3.low.cell (p := ⟨b, o + 2, none⟩) lb).trans c2
           have hz3 : w1.heap.size ≤ w3.heap.size := hO3.low.size
           have lb3 : b < w3.heap.size := by omega
           have HO3 := Lib.hid (And.intro (hO3.from HDR.out hB1) (HV1.out.under (hO3.low.mono hB1)))
           clear hO3)
        | (refine step_call (by rfl) 53 _ _ (by rfl) #[(.slice (some ⟨b, o, none⟩) 0 0)] (by first | rfl | (simp [Act.eval]; done) | (simp [Act.eval, Act.put]; done)) (enters_of Tryz.func53 (by kernel_rfl) rfl) (clone_any B [] _ (boxN w1.drew x (.slice a2 x.kids.length cap2)) (Nat.le_trans hB1 HBX.out.size) (by have := HRL.out; simp) (HT1.out.under (HBX.out.mono hB1))) ?_
           rintro e w3 ⟨v3, rfl, hO3⟩
           refine ⟨_, rfl, ?_⟩
           have HOL := Lib.hid ((hO3.from HBX.out hB1).from HDR.out hB1)
           have HNW := Lib.hid (new_node3 hO3.low)
           have HVL := Lib.hid (HV1.out.under ((HBX.out.trans (hO3.low.mono HBX.out.size)).mono hB1))
           clear hO3)
        | (refine step_app_one (by rfl) _ _ (by rfl) _ [] (by rfl) x _ (by rfl) HO3.out.1 HO3.out.2 (by have := HRL.out; simp) ?_
           intro v4 w4 hO4
           have e1 := (HBN.out.later hO4.low (by omega)).cell 1 _ rfl
           have en := (HBN.out.later hO4.low (by omega)).lt
           have HO4 := Lib.hid hO4
           clear hO4)
        | (refine step_app_old (by rfl) _ _ (by rfl) _ [] (by rfl) x _ (by rfl) HOL.out HVL.out HNW.out (by have := HRL.out; simp) ?_
           intro v4 w4 hO4
           have e1 := (HBN.out.later hO4.low (by omega)).cell 1 _ rfl
           have en := (HBN.out.later hO4.low (by omega)).lt
           have HO4 := Lib.hid hO4
           clear hO4))
  all_goals
    go_wp2_with fail
    go_ret
    exact HO4.out.bel1 HBW.out
set_option maxHeartbeats 8000000 in
set_option maxRecDepth 100000 in
theorem bel_field_ct (B : Nat) (n x : N) (r : List N) (b o cap : Nat) (a2 : Option Addr) (cap2 : Nat) (w : World) (hB : B ≤ w.heap.size) (hkd : n.kind.toList = [102, 105, 101, 108, 100]) (htx : n.text.toList.isEmpty = false) (hr : r.length ≤ 1000000) (hr0 : r = []) (hb : b < w.heap.size)
    (c0 : w.cell? ⟨b, o, none⟩ = some (.string x.kind)) (c1 : w.cell? ⟨b, o + 1, none⟩ = some (.string x.text)) (c2 : w.cell? ⟨b, o + 2, none⟩ = some (.slice a2 x.kids.length cap2)) (hV : KidsAt (· < B) w (.slice a2 x.kids.length cap2) x.kids)
    (hT : KidsAt (· < B) w (.slice (some ⟨b, o, none⟩) 0 0) r) :
    Calls Tryz.prog 23 #[.agg #[.string n.kind, .string n.text, .slice (some ⟨b, o, none⟩) 1 1]] w (BelPost B w (r ++ [x] ++ [litN n.text])) := by
  subst hr0
  have BN : Blk (boxN w n (Value.slice (some ⟨b, o, none⟩) 1 1)) w.heap.size 24 #[Value.string n.kind, Value.string n.text, Value.slice (some ⟨b, o, none⟩) 1 1] := Blk.new w _ _
  have hbW : Below w.heap.size w (boxN w n (Value.slice (some ⟨b, o, none⟩) 1 1)) := (Below.refl w.heap.size w).alloc (Nat.le_refl _) _
  have hsw : w.heap.size + 1 ≤ (boxN w n (Value.slice (some ⟨b, o, none⟩) 1 1)).heap.size := by simp [boxN]
  have HV := Lib.hid hV
  have nb := World.new_ne w ⟨b, o, none⟩ c0
  have HC := Lib.hid (And.intro c0 (And.intro c1 c2))
  have HBN := Lib.hid BN
  have HBW := Lib.hid hbW
  have HT := Lib.hid hT
  have HRL := Lib.hid hr
  have hte : n.text.toList ≠ [] := by intro h; rw [h] at htx; simp at htx
  have hte1 : (!n.text.toList.isEmpty) = true := by rw [htx]; rfl
  have hte2 : n.text.toList.isEmpty = false := htx
  clear hV hT BN hbW hr htx
  go_enter Tryz.func23, Tryz.ntmps23
  go_wp2_with fail
  simp only [boxN] at HBN HBW hsw
  generalize w.alloc (Obj.cells #[Value.string n.kind, Value.string n.text, Value.slice (some ⟨b, o, none⟩) 1 1] 24) = w1 at HBN HBW hsw ⊢
  have c0 := (HBW.out.cell (p := ⟨b, o, none⟩) hb).trans HC.out.1
  have c1 := (HBW.out.cell (p := ⟨b, o + 1, none⟩) hb).trans HC.out.2.1
  have c2 := (HBW.out.cell (p := ⟨b, o + 2, none⟩) hb).trans HC.out.2.2
  have lb : b < w1.heap.size := by omega
  have HDR : Hid (Below w1.heap.size w1 w1.drew) := Lib.hid (Below.refl _ _).drew
  have HV1 := Lib.hid ((HV.out.under (HBW.out.mono hB)).under (HDR.out.mono (by omega)))
  have HT1 := Lib.hid ((HT.out.under (HBW.out.mono hB)).under (HDR.out.mono (by omega)))
  have hB1 : B ≤ w1.heap.size := by omega
  have HBX : Hid (Below w1.drew.heap.size w1.drew (boxN w1.drew x (.slice a2 x.kids.length cap2))) := Lib.hid ((Below.refl w1.drew.heap.size w1.drew).alloc (Nat.le_refl _) _)
  go_region_law (first
        | (refine step_call (by rfl) 53 _ _ (by rfl) #[(.slice (some ⟨b, o, none⟩) 0 0)] (by first | rfl | (simp [Act.eval]; done) | (simp [Act.eval, Act.put]; done)) (enters_of Tryz.func53 (by kernel_rfl) rfl) (clone_any B [] _ w1.drew hB1 (by have := HRL.out; simp) HT1.out) ?_
           rintro e w3 ⟨v3, rfl, hO3⟩
           refine ⟨_, rfl, ?_⟩
           have c0 := (hO3.low.cell (p := ⟨b, o, none⟩) lb).trans c0
           have c1 := (hO3.low.cell (p := ⟨b, o + 1, none⟩) lb).trans c1
           have c2 := (hO3.low.cell (p := ⟨b, o + 2, none⟩) lb).trans c2
           have hz3 : w1.heap.size ≤ w3.heap.size := hO3.low.size
           have lb3 : b < w3.heap.size := by omega
           have HO3 := Lib.hid (And.intro (hO3.from HDR.out hB1) (HV1.out.under (hO3.low.mono hB1)))
           clear hO3)
        | (refine step_call (by rfl) 53 _ _ (by rfl) #[(.slice (some ⟨b, o, none⟩) 0 0)] (by first | rfl | (simp [Act.eval]; done) | (simp [Act.eval, Act.put]; done)) (enters_of Tryz.func53 (by kernel_rfl) rfl) (clone_any B [] _ (boxN w1.drew x (.slice a2 x.kids.length cap2)) (Nat.le_trans hB1 HBX.out.size) (by have := HRL.out; simp) (HT1.out.under (HBX.out.mono hB1))) ?_
           rintro e w3 ⟨v3, rfl, hO3⟩
           refine ⟨_, rfl, ?_⟩
           have HOL := Lib.hid ((hO3.from HBX.out hB1).from HDR.out hB1)
           have HNW := Lib.hid (new_node3 hO3.low)
           have HVL := Lib.hid (HV1.out.under ((HBX.out.trans (hO3.low.mono HBX.out.size)).mono hB1))
           clear hO3)
        | (refine step_app_one (by rfl) _ _ (by rfl) _ [] (by rfl) x _ (by rfl) HO3.out.1 HO3.out.2 (by have := HRL.out; simp) ?_
           intro v4 w4 hO4
           have e1 := (HBN.out.later hO4.low (by omega)).cell 1 _ rfl
           have en := (HBN.out.later hO4.low (by omega)).lt
           have HO4 := Lib.hid hO4
           clear hO4)
        | (refine step_app_old (by rfl) _ _ (by rfl) _ [] (by rfl) x _ (by rfl) HOL.out HVL.out HNW.out (by have := HRL.out; simp) ?_
           intro v4 w4 hO4
           have e1 := (HBN.out.later hO4.low (by omega)).cell 1 _ rfl
           have en := (HBN.out.later hO4.low (by omega)).lt
           have HO4 := Lib.hid hO4
           clear hO4))
  all_goals
    go_wp2_with fail
    refine (lit_raw _ _).mono ?_
    rintro e w5 ⟨rfl, hb5⟩
    have HO5 := Lib.hid (HO4.out.later hb5)
    clear hb5
    go_wp2_with (at_builtin; refine wpl_app_one rfl (.tmp 24) (.tmp 28) rfl _ _ rfl (litN n.text) (.slice none 0 0) rfl HO5.out (.nil none 0) (by have := HRL.out; simp only [List.length_append, List.length_cons, List.length_nil]; omega) ?_; intro v6 w6 hO6; have HO6 := Lib.hid hO6; clear hO6)
    go_ret
    exact HO6.out.bel1 HBW.out
set_option maxHeartbeats 8000000 in
set_option maxRecDepth 100000 in
theorem bel_field_dn (B : Nat) (n x : N) (r : List N) (b o cap : Nat) (a2 : Option Addr) (cap2 : Nat) (w : World) (hB : B ≤ w.heap.size) (hkd : n.kind.toList = [102, 105, 101, 108, 100]) (htx : n.text.toList.isEmpty = true) (hr : r.length ≤ 1000000) (hcap1 : ¬ cap = 1) (hcap : r.length + 1 ≤ cap) (hb : b < w.heap.size)
    (c0 : w.cell? ⟨b, o, none⟩ = some (.string x.kind)) (c1 : w.cell? ⟨b, o + 1, none⟩ = some (.string x.text)) (c2 : w.cell? ⟨b, o + 2, none⟩ = some (.slice a2 x.kids.length cap2)) (hV : KidsAt (· < B) w (.slice a2 x.kids.length cap2) x.kids)
    (hT : KidsAt (· < B) w (.slice (some ⟨b, o + 3, none⟩) r.length (cap - 1)) r) :
    Calls Tryz.prog 23 #[.agg #[.string n.kind, .string n.text, .slice (some ⟨b, o, none⟩) (r.length + 1) cap]] w (BelPost B w (r ++ [x])) := by
  have hcapi : (r.length : Int) + 1 ≤ (cap : Int) := by omega
  have hcapj : (1 : Int) ≤ (r.length : Int) + 1 := by omega
  have hcapk : 1 ≤ r.length + 1 := by omega
  have hcapl : 1 < cap := by omega
  have BN : Blk (boxN w n (Value.slice (some ⟨b, o, none⟩) (r.length + 1) cap)) w.heap.size 24 #[Value.string n.kind, Value.string n.text, Value.slice (some ⟨b, o, none⟩) (r.length + 1) cap] := Blk.new w _ _
  have hbW : Below w.heap.size w (boxN w n (Value.slice (some ⟨b, o, none⟩) (r.length + 1) cap)) := (Below.refl w.heap.size w).alloc (Nat.le_refl _) _
  have hsw : w.heap.size + 1 ≤ (boxN w n (Value.slice (some ⟨b, o, none⟩) (r.length + 1) cap)).heap.size := by simp [boxN]
  have HV := Lib.hid hV
  have nb := World.new_ne w ⟨b, o, none⟩ c0
  have HC := Lib.hid (And.intro c0 (And.intro c1 c2))
  have HBN := Lib.hid BN
  have HBW := Lib.hid hbW
  have HT := Lib.hid hT
  have HRL := Lib.hid hr
  have hte : n.text.toList = [] := by simpa using htx
  clear hV hT BN hbW hr htx
  go_enter Tryz.func23, Tryz.ntmps23
  go_wp2_with fail
  simp only [boxN] at HBN HBW hsw
  generalize w.alloc (Obj.cells #[Value.string n.kind, Value.string n.text, Value.slice (some ⟨b, o, none⟩) (r.length + 1) cap] 24) = w1 at HBN HBW hsw ⊢
  have c0 := (HBW.out.cell (p := ⟨b, o, none⟩) hb).trans HC.out.1
  have c1 := (HBW.out.cell (p := ⟨b, o + 1, none⟩) hb).trans HC.out.2.1
  have c2 := (HBW.out.cell (p := ⟨b, o + 2, none⟩) hb).trans HC.out.2.2
  have lb : b < w1.heap.size := by omega
  have HDR : Hid (Below w1.heap.size w1 w1.drew) := Lib.hid (Below.refl _ _).drew
  have HV1 := Lib.hid ((HV.out.under (HBW.out.mono hB)).under (HDR.out.mono (by omega)))
  have HT1 := Lib.hid ((HT.out.under (HBW.out.mono hB)).under (HDR.out.mono (by omega)))
  have hB1 : B ≤ w1.heap.size := by omega
  have HBX : Hid (Below w1.drew.heap.size w1.drew (boxN w1.drew x (.slice a2 x.kids.length cap2))) := Lib.hid ((Below.refl w1.drew.heap.size w1.drew).alloc (Nat.le_refl _) _)
  go_region_law (first
        | (refine step_call (by rfl) 53 _ _ (by rfl) #[(.slice (some ⟨b, o + 3, none⟩) r.length (cap - 1))] (by first | rfl | (simp [Act.eval]; done) | (simp [Act.eval, Act.put]; done)) (enters_of Tryz.func53 (by kernel_rfl) rfl) (clone_any B r _ w1.drew hB1 (by have := HRL.out; omega) HT1.out) ?_
           rintro e w3 ⟨v3, rfl, hO3⟩
           refine ⟨_, rfl, ?_⟩
           have c0 := (hO3.low.cell (p := ⟨b, o, none⟩) lb).trans c0
           have c1 := (hO3.low.cell (p := ⟨b, o + 1, none⟩) lb).trans c1
           have c2 := (hO3.low.cell (p := ⟨b, o + 2, none⟩) lb).trans c2
           have hz3 : w1.heap.size ≤ w3.heap.size := hO3.low.size
           have lb3 : b < w3.heap.size := by omega
           have HO3 := Lib.hid (And.intro (hO3.from HDR.out hB1) (HV1.out.under (hO3.low.mono hB1)))
           clear hO3)
        | (refine step_call (by rfl) 53 _ _ (by rfl) #[(.slice (some ⟨b, o + 3, none⟩) r.length (cap - 1))] (by first | rfl | (simp [Act.eval]; done) | (simp [Act.eval, Act.put]; done)) (enters_of Tryz.func53 (by kernel_rfl) rfl) (clone_any B r _ (boxN w1.drew x (.slice a2 x.kids.length cap2)) (Nat.le_trans hB1 HBX.out.size) (by have := HRL.out; omega) (HT1.out.under (HBX.out.mono hB1))) ?_
           rintro e w3 ⟨v3, rfl, hO3⟩
           refine ⟨_, rfl, ?_⟩
           have HOL := Lib.hid ((hO3.from HBX.out hB1).from HDR.out hB1)
           have HNW := Lib.hid (new_node3 hO3.low)
           have HVL := Lib.hid (HV1.out.under ((HBX.out.trans (hO3.low.mono HBX.out.size)).mono hB1))
           clear hO3)
        | (refine step_app_one (by rfl) _ _ (by rfl) _ r (by rfl) x _ (by rfl) HO3.out.1 HO3.out.2 (by have := HRL.out; omega) ?_
           intro v4 w4 hO4
           have e1 := (HBN.out.later hO4.low (by omega)).cell 1 _ rfl
           have en := (HBN.out.later hO4.low (by omega)).lt
           have HO4 := Lib.hid hO4
           clear hO4)
        | (refine step_app_old (by rfl) _ _ (by rfl) _ r (by rfl) x _ (by rfl) HOL.out HVL.out HNW.out (by have := HRL.out; omega) ?_
           intro v4 w4 hO4
           have e1 := (HBN.out.later hO4.low (by omega)).cell 1 _ rfl
           have en := (HBN.out.later hO4.low (by omega)).lt
           have HO4 := Lib.hid hO4
           clear hO4))
  all_goals
    go_wp2_with fail
    go_ret
    exact HO4.out.bel1 HBW.out
set_option maxHeartbeats 8000000 in
set_option maxRecDepth 100000 in
theorem bel_field_dt (B : Nat) (n x : N) (r : List N) (b o cap : Nat) (a2 : Option Addr) (cap2 : Nat) (w : World) (hB : B ≤ w.heap.size) (hkd : n.kind.toList = [102, 105, 101, 108, 100]) (htx : n.text.toList.isEmpty = false) (hr : r.length ≤ 1000000) (hcap1 : ¬ cap = 1) (hcap : r.length + 1 ≤ cap) (hb : b < w.heap.size)
    (c0 : w.cell? ⟨b, o, none⟩ = some (.string x.kind)) (c1 : w.cell? ⟨b, o + 1, none⟩ = some (.string x.text)) (c2 : w.cell? ⟨b, o + 2, none⟩ = some (.slice a2 x.kids.length cap2)) (hV : KidsAt (· < B) w (.slice a2 x.kids.length cap2) x.kids)
    (hT : KidsAt (· < B) w (.slice (some ⟨b, o + 3, none⟩) r.length (cap - 1)) r) :
    Calls Tryz.prog 23 #[.agg #[.string n.kind, .string n.text, .slice (some ⟨b, o, none⟩) (r.length + 1) cap]] w (BelPost B w (r ++ [x] ++ [litN n.text])) := by
  have hcapi : (r.length : Int) + 1 ≤ (cap : Int) := by omega
  have hcapj : (1 : Int) ≤ (r.length : Int) + 1 := by omega
  have hcapk : 1 ≤ r.length + 1 := by omega
  have hcapl : 1 < cap := by omega
  have BN : Blk (boxN w n (Value.slice (some ⟨b, o, none⟩) (r.length + 1) cap)) w.heap.size 24 #[Value.string n.kind, Value.string n.text, Value.slice (some ⟨b, o, none⟩) (r.length + 1) cap] := Blk.new w _ _
  have hbW : Below w.heap.size w (boxN w n (Value.slice (some ⟨b, o, none⟩) (r.length + 1) cap)) := (Below.refl w.heap.size w).alloc (Nat.le_refl _) _
  have hsw : w.heap.size + 1 ≤ (boxN w n (Value.slice (some ⟨b, o, none⟩) (r.length + 1) cap)).heap.size := by simp [boxN]
  have HV := Lib.hid hV
  have nb := World.new_ne w ⟨b, o, none⟩ c0
  have HC := Lib.hid (And.intro c0 (And.intro c1 c2))
  have HBN := Lib.hid BN
  have HBW := Lib.hid hbW
  have HT := Lib.hid hT
  have HRL := Lib.hid hr
  have hte : n.text.toList ≠ [] := by intro h; rw [h] at htx; simp at htx
  have hte1 : (!n.text.toList.isEmpty) = true := by rw [htx]; rfl
  have hte2 : n.text.toList.isEmpty = false := htx
  clear hV hT BN hbW hr htx
  go_enter Tryz.func23, Tryz.ntmps23
  go_wp2_with fail
  simp only [boxN] at HBN HBW hsw
  generalize w.alloc (Obj.cells #[Value.string n.kind, Value.string n.text, Value.slice (some ⟨b, o, none⟩) (r.length + 1) cap] 24) = w1 at HBN HBW hsw ⊢
  have c0 := (HBW.out.cell (p := ⟨b, o, none⟩) hb).trans HC.out.1
  have c1 := (HBW.out.cell (p := ⟨b, o + 1, none⟩) hb).trans HC.out.2.1
  have c2 := (HBW.out.cell (p := ⟨b, o + 2, none⟩) hb).trans HC.out.2.2
  have lb : b < w1.heap.size := by omega
  have HDR : Hid (Below w1.heap.size w1 w1.drew) := Lib.hid (Below.refl _ _).drew
  have HV1 := Lib.hid ((HV.out.under (HBW.out.mono hB)).under (HDR.out.mono (by omega)))
  have HT1 := Lib.hid ((HT.out.under (HBW.out.mono hB)).under (HDR.out.mono (by omega)))
  have hB1 : B ≤ w1.heap.size := by omega
  have HBX : Hid (Below w1.drew.heap.size w1.drew (boxN w1.drew x (.slice a2 x.kids.length cap2))) := Lib.hid ((Below.refl w1.drew.heap.size w1.drew).alloc (Nat.le_refl _) _)
  go_region_law (first
        | (refine step_call (by rfl) 53 _ _ (by rfl) #[(.slice (some ⟨b, o + 3, none⟩) r.length (cap - 1))] (by first | rfl | (simp [Act.eval]; done) | (simp [Act.eval, Act.put]; done)) (enters_of Tryz.func53 (by kernel_rfl) rfl) (clone_any B r _ w1.drew hB1 (by have := HRL.out; omega) HT1.out) ?_
           rintro e w3 ⟨v3, rfl, hO3⟩
           refine ⟨_, rfl, ?_⟩
           have c0 := (hO3.low.cell (p := ⟨b, o, none⟩) lb).trans c0
           have c1 := (hO3.low.cell (p := ⟨b, o + 1, none⟩) lb).trans c1
           have c2 := (hO3.low.cell (p := ⟨b, o + 2, none⟩) lb).trans c2
           have hz3 : w1.heap.size ≤ w3.heap.size := hO3.low.size
           have lb3 : b < w3.heap.size := by omega
           have HO3 := Lib.hid (And.intro (hO3.from HDR.out hB1) (HV1.out.under (hO3.low.mono hB1)))
           clear hO3)
        | (refine step_call (by rfl) 53 _ _ (by rfl) #[(.slice (some ⟨b, o + 3, none⟩) r.length (cap - 1))] (by first | rfl | (simp [Act.eval]; done) | (simp [Act.eval, Act.put]; done)) (enters_of Tryz.func53 (by kernel_rfl) rfl) (clone_any B r _ (boxN w1.drew x (.slice a2 x.kids.length cap2)) (Nat.le_trans hB1 HBX.out.size) (by have := HRL.out; omega) (HT1.out.under (HBX.out.mono hB1))) ?_
           rintro e w3 ⟨v3, rfl, hO3⟩
           refine ⟨_, rfl, ?_⟩
           have HOL := Lib.hid ((hO3.from HBX.out hB1).from HDR.out hB1)
           have HNW := Lib.hid (new_node3 hO3.low)
           have HVL := Lib.hid (HV1.out.under ((HBX.out.trans (hO3.low.mono HBX.out.size)).mono hB1))
           clear hO3)
        | (refine step_app_one (by rfl) _ _ (by rfl) _ r (by rfl) x _ (by rfl) HO3.out.1 HO3.out.2 (by have := HRL.out; omega) ?_
           intro v4 w4 hO4
           have e1 := (HBN.out.later hO4.low (by omega)).cell 1 _ rfl
           have en := (HBN.out.later hO4.low (by omega)).lt
           have HO4 := Lib.hid hO4
           clear hO4)
        | (refine step_app_old (by rfl) _ _ (by rfl) _ r (by rfl) x _ (by rfl) HOL.out HVL.out HNW.out (by have := HRL.out; omega) ?_
           intro v4 w4 hO4
           have e1 := (HBN.out.later hO4.low (by omega)).cell 1 _ rfl
           have en := (HBN.out.later hO4.low (by omega)).lt
           have HO4 := Lib.hid hO4
           clear hO4))
  all_goals
    go_wp2_with fail
    refine (lit_raw _ _).mono ?_
    rintro e w5 ⟨rfl, hb5⟩
    have HO5 := Lib.hid (HO4.out.later hb5)
    clear hb5
    go_wp2_with (at_builtin; refine wpl_app_one rfl (.tmp 24) (.tmp 28) rfl _ _ rfl (litN n.text) (.slice none 0 0) rfl HO5.out (.nil none 0) (by have := HRL.out; simp only [List.length_append, List.length_cons, List.length_nil]; omega) ?_; intro v6 w6 hO6; have HO6 := Lib.hid hO6; clear hO6)
    go_ret
    exact HO6.out.bel1 HBW.out
end Go.Proofs.YtpifflakohlglaaGreatFmt

/- What is proved here: spec.below gives the nodes below a node, whatever its kind. -/
namespace Go.Proofs.YtpifflakohlglaaGreatFmt
open Go.RowKit Go.Shelf
set_option linter.unusedVariables false
set_option linter.unusedSimpArgs false

theorem bel_field (B : Nat) (n x : N) (r : List N) (v : Value) (w : World) (hB : B ≤ w.heap.size) (hkd : n.kind.toList = [102, 105, 101, 108, 100]) (h0 : n.kids = x :: r) (hr : r.length ≤ 1000000) (hk : KidsAt (· < B) w v n.kids) :
    Calls Tryz.prog 23 #[n.val v] w (BelPost B w (r ++ [x] ++ (if n.text.toList.isEmpty then [] else [litN n.text]))) := by
  obtain ⟨b, o, cap, a2, cap2, rfl, hcap, hb0, c0, c1, c2, hV⟩ := hk.kid0 h0
  have hb : b < w.heap.size := Nat.lt_of_lt_of_le hb0 hB
  have hlen : n.kids.length = r.length + 1 := by rw [h0]; rfl
  rw [hlen] at hcap hk ⊢
  unfold N.val
  by_cases hc : cap = 1
  · have hr0 : r = [] := List.eq_nil_of_length_eq_zero (by omega)
    subst hc
    subst hr0
    have hT : KidsAt (· < B) w (.slice (some ⟨b, o, none⟩) 0 0) [] := .nil _ _
    cases ht : n.text.toList.isEmpty with
    | true => simpa using bel_field_cn B n x [] b o 1 a2 cap2 w hB hkd ht (by simp) rfl hb c0 c1 c2 hV hT
    | false => simpa using bel_field_ct B n x [] b o 1 a2 cap2 w hB hkd ht (by simp) rfl hb c0 c1 c2 hV hT
  · have hT : KidsAt (· < B) w (.slice (some ⟨b, o + 3, none⟩) r.length (cap - 1)) r := hk.tail' h0 _ r.length (cap - 1) rfl (fun _ => rfl) (by omega)
    cases ht : n.text.toList.isEmpty with
    | true => simpa using bel_field_dn B n x r b o cap a2 cap2 w hB hkd ht hr hc hcap hb c0 c1 c2 hV hT
    | false => simpa using bel_field_dt B n x r b o cap a2 cap2 w hB hkd ht hr hc hcap hb c0 c1 c2 hV hT

theorem kind_not {n : N} {c d : List UInt8} (h : isK n c = true) (hd : (c == d) = false) : (n.kind.toList == d) = false := by
  rw [isK_eq h]
  exact hd
theorem bel_plainK (B : Nat) (n : N) {c : List UInt8} (hc : isK n c = true) (h1 : (c == [102, 105, 101, 108, 100]) = false) (h2 : (c == [112, 97, 116, 104]) = false) (h3 : (c == [116, 121, 112, 101]) = false) (h4 : (c == [97, 108, 105, 97, 115]) = false) (h5 : (c == [115, 101, 108, 101, 99, 116]) = false) (h6 : (c == [102, 117, 110, 99]) = false)
    (v : Value) (w : World) (hB : B ≤ w.heap.size) (hsz : n.size ≤ 1000000) (hk : KidsAt (· < B) w v n.kids) : Calls Tryz.prog 23 #[n.val v] w (BelPost B w (subs n)) := by
  have hs : subs n = n.kids.flatMap flat := by
    have hk := isK_eq hc
    simp only [beq_eq_false_iff_ne, ne_eq] at h1 h2 h3 h4 h5 h6
    simp [subs, isK, hk, h1, h2, h3, h4, h5, h6]
  rw [hs]
  exact bel_plain B n v w hB (kind_not hc h1) (kind_not hc h2) (kind_not hc h3) (kind_not hc h4) (kind_not hc h5) (kind_not hc h6) (by have := N.size_eq n; omega) hk
theorem Own3.post {B : Nat} {w : World} {L : List N} (e : Ending) (w' : World) (h : ∃ v', e = .returned v' ∧ Own3 B w w' v' L) : BelPost B w L e w' := by
  obtain ⟨v', rfl, hO⟩ := h
  exact hO.bel
theorem below_any {C : Nat → Nat → Value → Prop} {n : N} {t b : Nat} (hR : Rep C n (Nd t b)) (hsz : n.size ≤ 1000000) (B : Nat) (v : Value) (w : World) (hB : B ≤ w.heap.size) (hk : KidsAt (· < B) w v n.kids) :
    Calls Tryz.prog 23 #[n.val v] w (BelPost B w (subs n)) := by
  have hse := N.size_eq n
  cases hR with
  | name _ _ hkd => exact bel_plainK B n hkd rfl rfl rfl rfl rfl rfl v w hB hsz hk
  | literal _ _ hkd => exact bel_plainK B n hkd rfl rfl rfl rfl rfl rfl v w hB hsz hk
  | star _ _ _ _ hkd => exact bel_plainK B n hkd rfl rfl rfl rfl rfl rfl v w hB hsz hk
  | array _ _ _ _ _ _ hkd => exact bel_plainK B n hkd rfl rfl rfl rfl rfl rfl v w hB hsz hk
  | map _ _ _ _ _ _ hkd => exact bel_plainK B n hkd rfl rfl rfl rfl rfl rfl v w hB hsz hk
  | chan _ _ _ _ _ hkd => exact bel_plainK B n hkd rfl rfl rfl rfl rfl rfl v w hB hsz hk
  | signature _ _ _ _ _ _ _ hkd => exact bel_plainK B n hkd rfl rfl rfl rfl rfl rfl v w hB hsz hk
  | struct _ _ _ _ hkd => exact bel_plainK B n hkd rfl rfl rfl rfl rfl rfl v w hB hsz hk
  | interface _ _ _ _ hkd => exact bel_plainK B n hkd rfl rfl rfl rfl rfl rfl v w hB hsz hk
  | fields _ _ _ _ hkd => exact bel_plainK B n hkd rfl rfl rfl rfl rfl rfl v w hB hsz hk
  | body _ _ hkd => exact bel_plainK B n hkd rfl rfl rfl rfl rfl rfl v w hB hsz hk
  | value _ _ _ _ _ _ _ _ _ _ hkd => exact bel_plainK B n hkd rfl rfl rfl rfl rfl rfl v w hB hsz hk
  | gen _ _ _ _ _ _ hkd =>
    rcases tokOf_kind hkd with h | h | h | h <;> exact bel_plainK B n h rfl rfl rfl rfl rfl rfl v w hB hsz hk
  | select _ _ x vx s hkd h0 =>
    rw [below_select hkd h0]
    exact (bel_select B n x v w hB (isK_eq hkd) h0 hk).mono Own3.post
  | type _ _ x vx s d hkd h0 =>
    rw [below_type (hkd.imp And.left And.left) h0]
    rcases hkd with ⟨hkd, _⟩ | ⟨hkd, _⟩
    · exact (bel_type B n x v w hB (isK_eq hkd) h0 hk).mono Own3.post
    · exact (bel_alias B n x v w hB (isK_eq hkd) h0 hk).mono Own3.post
  | path _ _ x vx px t hkd h0 =>
    rw [below_path hkd h0]
    exact bel_path B n x v w hB (isK_eq hkd) h0 hk
  | func _ _ x y z vx px s t vz pz hkd h0 =>
    have hs : subs n = here x ++ identN n.text :: [y, z].flatMap flat := by rw [below_func hkd h0]; simp
    rw [hs]
    refine bel_func B n x y z v w hB (isK_eq hkd) h0 ?_ hk
    rw [h0] at hse
    simp only [N.sizes] at hse ⊢
    omega
  | field _ _ x r vx V vl vt pt hkd h0 =>
    rw [below_field hkd h0]
    refine bel_field B n x r v w hB (isK_eq hkd) h0 ?_ hk
    have := N.len_lt n
    rw [h0] at this
    simp at this
    omega
end Go.Proofs.YtpifflakohlglaaGreatFmt

/- What is proved here: an owned row of texts. -/
namespace Go.Proofs.YtpifflakohlglaaGreatFmt
open Go.RowKit Go.Shelf
set_option linter.unusedVariables false
set_option linter.unusedSimpArgs false

/-- What it gives: an owned row of texts. -/
def TextsPost (w : World) (L : List ByteArray) (e : Ending) (w' : World) : Prop := ∃ v', e = .returned v' ∧ Below w.heap.size w w' ∧ w'.ownsRow w.heap.size 9 1 v' L.length (L.map Value.string)
theorem ones_texts (L : List ByteArray) : ∀ u ∈ L.map Value.string, u.oneCell' = true := by
  intro u hu
  obtain ⟨s, _, rfl⟩ := List.mem_map.1 hu
  rfl
end Go.Proofs.YtpifflakohlglaaGreatFmt

/- What is proved here: what the laws share: a declaration of the shape lies in memory as some tree; a row of texts as it reads. -/
namespace Go.Proofs.YtpifflakohlglaaGreatFmt
open Go.RowKit Go.Shelf
set_option linter.unusedVariables false

theorem TokTab.below {w w' : World} (h : TokTab w) (hb : Below w.heap.size w w') (h0 : 0 < w.heap.size) : TokTab w' := fun i t hi => by
  obtain ⟨x, hx, hc⟩ := h i t hi
  exact ⟨x, hx, (hb.cell (p := ⟨0, 61 + i, none⟩) h0).trans hc⟩
/-- A declaration of the shape lies in memory as some tree. -/
theorem rep_of_shape {n : N} {v : Value} {w : World} (hs : shapedB n = true) (hk : KidsAt (· < w.heap.size) w v n.kids) (hT : TokTab w) (h0 : 0 < w.heap.size) : ∃ (C : Nat → Nat → Value → Prop) (t b : Nat), Rep C n (Nd t b) := by
  obtain ⟨e, w', fr, ⟨t, b, _, _, hM⟩, _⟩ := build_any n v w hs hk hT h0 []
  exact ⟨_, t, b, hM.2⟩
theorem row_texts {w : World} {base n : Nat} {v : Value} {L : List ByteArray} (h : w.ownsRow base 9 1 v n (L.map Value.string)) : RowAt w 1 v n (fun i _ => Value.string (L.getD i ⟨#[]⟩)) := by
  have hn : L.length = n := by have := h.1; simpa using this
  refine (RowAt.of_owns h).congr fun i j hi hj => ?_
  have hj0 : j = 0 := by omega
  subst hj0
  have hi' : i < L.length := by omega
  simp [List.getD_eq_getElem?_getD, hi']
end Go.Proofs.YtpifflakohlglaaGreatFmt

