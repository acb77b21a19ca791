/- What is proved here: the same, second part. Conditions: each theorem names its own. -/
import Derived.Deep.AppendLies
import Derived.Test.YtoijkbkcfbbmfaaGreatDoorMx
import Derived.Test.YtoijkbkcfbbmfaaGreatDoorMd
import Derived.Test.YtoijkbkcfbbmfaaGreatDoorMf
set_option linter.all false
set_option linter.unusedVariables false
set_option linter.unusedSimpArgs false
/- What is proved here: list: what a function makes of each part, as one node of a kind, read as the list of their trees. -/
namespace Go.Proofs.YtoijkbkcfbbmfaaGreatDoor
open Go.RowKit Go.Shelf
set_option linter.unusedVariables false
set_option linter.unusedSimpArgs false
attribute [local go_sem ↓] Go.wp_at_zero Go.wp_at_succ
theorem under22 : Tryz.prog.underlying 22 = some (.slice 24) := by kernel_rfl
theorem info24 : (Tryz.prog.info? 24).map (fun i => (i.zero, i.size, i.bytes)) = some (some (.agg #[.string ⟨#[]⟩, .string ⟨#[]⟩, .slice none 0 0]), 3, 56) := by kernel_rfl
theorem step_callv {P : Program} {ops : Array Oper} {o : Oper} {a : Act} {w : World} {K : Act → World → Prop} {Q : Exit → Act → World → Prop} {E : Prop} (hgd : o.guard = none) (x : Operand) (g : Nat) (xs : Array Operand) (ts : Array TypeId)
    (ho : o.op = .call { callee := .value x, args := xs, argTypes := ts }) (hg : a.eval x = .func (.func g) #[] #[]) (args : Array Value) (hargs : (xs.map a.eval) = args) {post : Ending → World → Prop} (hen : Enters P g) (hc : Calls P g args w post)
    (hp : ∀ e w', post e w' → ∃ v, e = .returned v ∧ K (a.put o.dst v) w') :
    if Region.wanted o (yielded ops a.tmps) = true then Oper.wp P o a w K Q else E := by
  have hw : Region.wanted o (yielded ops a.tmps) = true := by simp [Region.wanted, hgd]
  rw [if_pos hw]
  unfold Oper.wp execOp
  have he := hen args w
  simp only [ho, resolve, hg, invoke, hargs, Deferred.ofValue, Array.empty_append, Array.append_empty, Sem.run_bind, Sem.run_pure, Result.andThen_ok, he, Oper.upon_enter]
  refine hc.mono ?_
  intro e w' h
  obtain ⟨v, rfl, hk⟩ := hp e w' h
  exact hk
/-- The cells of nodes in a row. -/
def rowL (l : List (N × Value)) : List Value := l.flatMap fun p => [.string p.1.kind, .string p.1.text, p.2]
theorem rowL_len (l : List (N × Value)) : (rowL l).length = l.length * 3 := by
  induction l with
  | nil => rfl
  | cons p r ih =>
    have : rowL (p :: r) = [.string p.1.kind, .string p.1.text, p.2] ++ rowL r := rfl
    rw [this, List.length_append, ih]
    simp
    omega
theorem rowL_at {l : List (N × Value)} {i : Nat} {p : N × Value} (h : l[i]? = some p) : (rowL l)[i * 3]? = some (.string p.1.kind) ∧ (rowL l)[i * 3 + 1]? = some (.string p.1.text) ∧ (rowL l)[i * 3 + 2]? = some p.2 := by
  induction l generalizing i with
  | nil => simp at h
  | cons q r ih =>
    have e : rowL (q :: r) = .string q.1.kind :: .string q.1.text :: q.2 :: rowL r := rfl
    cases i with
    | zero => simp at h; subst h; rw [e]; exact ⟨rfl, rfl, rfl⟩
    | succ i =>
      obtain ⟨h1, h2, h3⟩ := ih (i := i) (by simpa using h)
      rw [e, show (i + 1) * 3 = i * 3 + 1 + 1 + 1 by omega]
      simp only [List.getElem?_cons_succ]
      exact ⟨h1, h2, h3⟩
theorem rowL_snoc (l : List (N × Value)) (m : N) (v : Value) : rowL (l ++ [(m, v)]) = rowL l ++ [.string m.kind, .string m.text, v] := by simp [rowL]
theorem rowL_one {l : List (N × Value)} (h : ∀ p ∈ l, ∃ a n c, p.2 = .slice a n c) : ∀ x ∈ rowL l, x.oneCell' = true := by
  intro x hx
  obtain ⟨p, hp, hx⟩ := List.mem_flatMap.1 hx
  obtain ⟨a, n, c, h⟩ := h p hp
  rw [h] at hx
  simp at hx
  rcases hx with rfl | rfl | rfl <;> rfl
theorem KidsAt.beneath {lo lo' hi hi' B : Nat} {w w' : World} {v : Value} {ks : List N} (h : KidsAt (Bt lo hi) w v ks) (hb : Below B w w') (h1 : lo' ≤ lo) (h2 : hi ≤ B) (h3 : hi ≤ hi') : KidsAt (Bt lo' hi') w' v ks :=
  (h.same fun b hlt => hb.block b (Nat.lt_of_lt_of_le hlt.2 h2)).mono fun b hb => ⟨Nat.le_trans h1 hb.1, Nat.lt_of_lt_of_le hb.2 h3⟩
theorem KidsAt.setC {ok : Nat → Prop} {w : World} {v u : Value} {ks : List N} (h : KidsAt ok w v ks) {X i : Nat} (hX : ¬ ok X) : KidsAt ok (w.setCell ⟨X, i, none⟩ u) v ks :=
  h.same fun b hb => heap_setCell_other _ _ b _ (by intro e; subst e; exact hX hb)
/-- Nodes in a row of their own, read as a list of trees. -/
theorem kids_row {ok : Nat → Prop} {w : World} {B n T : Nat} {u : Value} {l : List (N × Value)} (ho : w.ownsRow B T 3 u n (rowL l)) (hok : ∀ g, u.ownBlock = some g → ok g) (hk : ∀ p ∈ l, KidsAt ok w p.2 p.1.kids) : KidsAt ok w u (l.map (·.1)) := by
  have hn : l.length = n := by have := ho.1; rw [rowL_len] at this; omega
  rcases ho.2 with ⟨rfl, h0⟩ | ⟨g, cap, cur, rfl, hb, hg, hcap, _⟩
  · have : l = [] := List.length_eq_zero_iff.1 (by omega)
    subst this
    exact .nil _ _
  · subst hn
    by_cases h0 : l = []
    · subst h0; exact .nil _ _
    · have hlp : 0 < l.length := List.length_pos_iff.2 h0
      have hcl : ∀ j x, (rowL l)[j]? = some x → w.cell? ⟨g, 0 + j, none⟩ = some x := fun j x hj => by
        have := ho.cells (g := g) rfl j x hj
        rwa [show (⟨g, 0, none⟩ : Addr).add j = ⟨g, 0 + j, none⟩ by unfold Addr.add; split <;> simp_all] at this
      have hq : ∀ (i : Nat) (n : N), (l.map (·.1))[i]? = some n → ∃ p : N × Value, l[i]? = some p ∧ p.1 = n := fun i n hi => by
        rw [List.getElem?_map] at hi
        cases hp : l[i]? with
        | none => simp [hp] at hi
        | some p => simp [hp] at hi; exact ⟨p, rfl, hi⟩
      have := KidsAt.cons (ok := ok) (w := w) g 0 cap (l.map (·.1)) (fun i => ((l[i]?).map (·.2)).getD .nilIface) (hok g rfl) (by simpa using hlp) (by simpa using hcap) (fun i n hi => ?_) (fun i n hi => ?_)
      · rwa [List.length_map] at this
      · obtain ⟨p, hp, rfl⟩ := hq i n hi
        obtain ⟨h1, h2, h3⟩ := rowL_at hp
        have e1 := hcl _ _ h1
        have e2 := hcl _ _ h2
        have e3 := hcl _ _ h3
        simp only [hp, Option.map_some, Option.getD_some]
        exact ⟨e1, by rw [show 0 + i * 3 + 1 = 0 + (i * 3 + 1) by omega]; exact e2, by rw [show 0 + i * 3 + 2 = 0 + (i * 3 + 2) by omega]; exact e3⟩
      · obtain ⟨p, hp, rfl⟩ := hq i n hi
        simp only [hp, Option.map_some, Option.getD_some]
        exact hk p (List.mem_of_getElem? hp)
theorem kidsEx_step {lo n g cap : Nat} {v u : Value} {wr w2 w1 : World} {ks : List N} (h : KidsAt (Ex v lo wr.heap.size) wr u ks) (hb : Below wr.heap.size wr w2) (hg : w2.grownBy w1 v.ownBlock) (hat : v.ownBlock = some g ∨ w2.heap.size ≤ g) :
    KidsAt (Ex (.slice (some ⟨g, 0, none⟩) n cap) lo w1.heap.size) w1 u ks := by
  have hs := hb.size
  have hs1 := hg.size
  refine (h.same fun b hb' => (hg.block b (by have := hb'.1.2; omega) (fun e => hb'.2 e.symm)).trans (hb.block b hb'.1.2)).mono fun b hb' => ⟨⟨hb'.1.1, by have := hb'.1.2; omega⟩, ?_⟩
  simp only [Value.ownBlock]
  rcases hat with h | h
  · rw [← h]; exact hb'.2
  · intro h'; cases h'; have := hb'.1.2; omega
theorem kidsEx_new {lo lo2 n g cap : Nat} {v u : Value} {w2 w1 : World} {B : Nat} {ks : List N} (h : KidsAt (Bt lo2 w2.heap.size) w2 u ks) (hl : lo ≤ lo2) (hown : ∀ k, v.ownBlock = some k → k < lo2) (hg : w2.grownBy w1 v.ownBlock) (hat : v.ownBlock = some g ∨ w2.heap.size ≤ g) :
    KidsAt (Ex (.slice (some ⟨g, 0, none⟩) n cap) lo w1.heap.size) w1 u ks := by
  have hs1 := hg.size
  refine (h.same fun b hb' => hg.block b hb'.2 (fun e => by have := hown b e.symm; have := hb'.1; omega)).mono fun b hb' => ⟨⟨Nat.le_trans hl hb'.1, Nat.lt_of_lt_of_le hb'.2 hs1⟩, ?_⟩
  simp only [Value.ownBlock]
  intro h'
  cases h'
  rcases hat with h | h
  · have := hown _ h; have := hb'.1; omega
  · have := hb'.2; omega
/-- A row of nodes of its own, as list returns it. -/
def LsPost (w : World) (k : ByteArray) (ks : List N) (e : Ending) (w' : World) : Prop :=
  ∃ u l, e = .returned (.agg #[.string k, .string ⟨#[]⟩, u]) ∧ l.map Prod.fst = ks ∧ w'.ownsRow w.heap.size 24 3 u ks.length (rowL l) ∧ (∀ p ∈ l, (∃ a n c, p.2 = .slice a n c) ∧ KidsAt (Bt w.heap.size w'.heap.size) w' p.2 p.1.kids) ∧ (ks = [] → u = .slice none 0 0)
/-- What list makes of parts. -/
def LsB (C : Nat → Nat → Value → Prop) (f : Nat) (k : ByteArray) (v : Value) (g : Nat) (ks : List N) : Prop := ∀ w, Sees C w → Calls Tryz.prog f #[.string k, v, .func (.func g) #[] #[]] w fun e w' => LsPost w k ks e w' ∧ Below w.heap.size w w'
theorem owns_weak {w : World} {B B' e size n : Nat} {r : Value} {L : List Value} (h : w.ownsRow B e size r n L) (hB : B' ≤ B) : w.ownsRow B' e size r n L :=
  ⟨h.1, h.2.imp id fun ⟨g, c, cur, e1, e2, e3⟩ => ⟨g, c, cur, e1, Nat.le_trans hB e2, e3⟩⟩
theorem owns_slice {w : World} {B e size n : Nat} {u : Value} {L : List Value} (h : w.ownsRow B e size u n L) : ∃ a l c, u = .slice a l c := by
  rcases h.2 with ⟨h, _⟩ | ⟨_, _, _, h, _⟩
  · exact ⟨_, _, _, h⟩
  · exact ⟨_, _, _, h⟩
theorem LsB.ok {C : Nat → Nat → Value → Prop} {f g : Nat} {k : ByteArray} {v : Value} {ks : List N} (h : LsB C f k v g ks) : LkOK C f k v g ks := fun w hS => (h w hS).mono fun e w' hx => by
  obtain ⟨⟨u, l, rfl, h1, h2, h3, _⟩, hb⟩ := hx
  obtain ⟨a, n, c, rfl⟩ := owns_slice h2
  refine ⟨⟨_, _, _, rfl, ?_⟩, hb⟩
  rw [← h1]
  exact kids_row h2 (fun g hg => ⟨(h2.lt g hg).1, (h2.lt g hg).2⟩) (fun p hp => (h3 p hp).2)

set_option maxHeartbeats 4000000 in
set_option maxRecDepth 100000 in
theorem lb_listSpec {C : Nat → Nat → Value → Prop} (k : ByteArray) (v : Value) (g : Nat) (ks : List N) (V : Nat → Value) (hl : LAt C v ks.length V) (hn : ks.length ≤ 1000000) (hen : Enters Tryz.prog g)
    (hx : ∀ i m, ks[i]? = some m → BkOK g C (V i) m) : LsB C 41 k v g ks := by
  intro w hS
  obtain ⟨i0, hi, hz0, hz1, hz2⟩ := info_parts info24
  obtain ⟨a, cap, rfl, hcap, hel⟩ := hl
  obtain ⟨n, hnn⟩ : ∃ n, ks.length = n := ⟨_, rfl⟩
  have HNN := Lib.hid hnn
  rw [hnn] at hcap hel hn ⊢
  have HI := Lib.hid (And.intro hi (And.intro hz0 (And.intro hz1 hz2)))
  have HS := Lib.hid hS
  have HEL := Lib.hid hel
  have HXX := Lib.hid hx
  have HEN := Lib.hid hen
  clear hi hz0 hz1 hz2 hS hel hx hen hnn
  have BX0 : Blk ((w.alloc (Obj.cells #[Value.string ⟨#[]⟩, Value.string ⟨#[]⟩, Value.slice none 0 0] 24)).alloc (Obj.cells #[Value.string k, Value.string ⟨#[]⟩, Value.slice none 0 0] 24)) w.heap.size 24 #[Value.string ⟨#[]⟩, Value.string ⟨#[]⟩, Value.slice none 0 0] := (Blk.new w _ _).later ((Below.refl (w.heap.size + 1) _).alloc (by simp) _) (by omega)
  have BY0 : Blk ((w.alloc (Obj.cells #[Value.string ⟨#[]⟩, Value.string ⟨#[]⟩, Value.slice none 0 0] 24)).alloc (Obj.cells #[Value.string k, Value.string ⟨#[]⟩, Value.slice none 0 0] 24)) (w.heap.size + 1) 24 #[Value.string k, Value.string ⟨#[]⟩, Value.slice none 0 0] := by simpa using Blk.new (w.alloc (Obj.cells #[Value.string ⟨#[]⟩, Value.string ⟨#[]⟩, Value.slice none 0 0] 24)) #[Value.string k, Value.string ⟨#[]⟩, Value.slice none 0 0] 24
  have HB0 := Lib.hid (And.intro BX0 BY0)
  clear BX0 BY0
  go_enter Tryz.func41, Tryz.ntmps41
  go_wp2_with fail
  go_loopw [14] (fun i wr => ∃ (j : Nat) (l : List (N × Value)) (v : Value), j ≤ n ∧ i = .int .i64 j ∧ Blk wr w.heap.size 24 #[Value.string ⟨#[]⟩, Value.string ⟨#[]⟩, Value.slice none 0 0] ∧ Blk wr (w.heap.size + 1) 24 #[Value.string k, Value.string ⟨#[]⟩, v] ∧ wr.ownsRow (w.heap.size + 2) 24 3 v j (rowL l) ∧ l.map Prod.fst = ks.take j ∧ (∀ p ∈ l, (∃ a n c, p.2 = .slice a n c) ∧ KidsAt (Ex v (w.heap.size + 2) wr.heap.size) wr p.2 p.1.kids) ∧ (j = 0 → v = .slice none 0 0) ∧ Below w.heap.size w wr ∧ w.heap.size + 2 ≤ wr.heap.size)
    (fun i _ => n - (intOf i).toNat)
  case atStart =>
    exact ⟨0, [], .slice none 0 0, Nat.zero_le _, rfl, HB0.out.1, HB0.out.2, World.ownsRow_nil _ _ _ _, rfl, (fun x hx => by simp at hx), (fun _ => rfl), (((Below.refl _ _).alloc (Nat.le_refl _) _).alloc (by simp) _), by simp⟩
  case round =>
    obtain ⟨j, l, vl, hj, rfl, hbx, hby, hown, hfst, hone, hnil, hbel, hsr⟩ := hrel
    have HFST := Lib.hid hfst
    have HONE := Lib.hid hone
    have HNIL := Lib.hid hnil
    clear hone hnil hfst
    have HBX := Lib.hid hbx
    have HBY := Lib.hid hby
    have HOWN := Lib.hid hown
    have HBEL := Lib.hid hbel
    clear hbx hby hown hbel
    by_cases hjl : j < n
    · have hjl' : (j : Int) < (n : Int) := by omega
      obtain ⟨b, o, rfl, hcb⟩ := HEL.out j hjl
      have c0 := (HS.out.later HBEL.out) _ _ _ hcb
      clear hcb
      have hmj : ks[j]? = some (ks[j]'(by have := HNN.out; omega)) := List.getElem?_eq_getElem _
      obtain ⟨m, hm⟩ : ∃ m, ks[j]? = some m := ⟨_, hmj⟩
      have HM := Lib.hid hm
      clear hm hmj
      have y2 := HBY.out.cell 2 _ rfl
      have yf := HBY.out.frozen 2
      have hltx := HBY.out.lt
      go_wp2_with fail
      go_region_law (first
        | (refine step_callv (by rfl) (.tmp 20) g _ _ (by rfl) (by rfl) #[V j] (by first | (simp [Act.eval]; done) | (simp [Act.eval, Act.put]; done) | rfl) HEN.out (HXX.out j m HM.out _ ((HS.out.later HBEL.out).later ((Below.refl _ _).drew))) ?_
           rintro e w3 ⟨⟨a2, l2, c2, rfl, hk3⟩, hb3⟩
           refine ⟨_, rfl, ?_⟩
           have hbA := ((Below.refl wr.heap.size wr).drew).trans (hb3.mono (Nat.le_refl _))
           have hs3 : wr.heap.size ≤ w3.heap.size := hbA.size
           have hx3 := HBY.out.later hbA hltx
           have z2 := hx3.cell 2 _ rfl
           have zf := hx3.frozen 2
           have lt3 := hx3.lt
           have HOWN3 := Lib.hid (owns_kept HOWN.out hbA)
           have HBA := Lib.hid hbA
           have HX3 := Lib.hid hx3
           have HK3 := Lib.hid (show KidsAt (Bt wr.heap.size w3.heap.size) w3 _ _ from hk3)
           clear hb3 hbA hx3 hk3)
        | (refine step_append_lies _ (by rfl) (.tmp 19) (.tmp 23) 22 (by rfl) (w.heap.size + 2) 24 i0 (.agg #[.string ⟨#[]⟩, .string ⟨#[]⟩, .slice none 0 0]) 3 56 under22 HI.out.1 HI.out.2.1 HI.out.2.2.1 HI.out.2.2.2 (by rfl) (by decide) vl j (rowL l) (by simp [Act.eval]) (HOWN3.out.alloc _) ⟨w3.heap.size, 0, none⟩ 1 1 [.string m.kind, .string m.text, .slice a2 l2 c2] (by simp [Act.eval]) (by rfl) (World.news_of_block (heap_alloc_new _ _)) (by simp [Value.oneCell']) (by decide) (by unfold maxLen; omega) (by omega) (by simp; omega) (w3.heap.size + 1) (by simp) ?_
           intro gg cap' w5 hown5 hgrow5 hat5 hlt5
           have hbC := HBA.out.alloc hs3 (.cells #[.string m.kind, .string m.text, .slice a2 l2 c2] 24)
           have hat6 : vl.ownBlock = some gg ∨ (w3.alloc (.cells #[.string m.kind, .string m.text, .slice a2 l2 c2] 24)).heap.size ≤ gg := hat5.imp id (fun h => by simp; omega)
           have HONE5 : Hid (∀ p ∈ l ++ [(m, Value.slice a2 l2 c2)], (∃ a n c, p.2 = .slice a n c) ∧ KidsAt (Ex (.slice (some ⟨gg, 0, none⟩) (j + 1) cap') (w.heap.size + 2) w5.heap.size) w5 p.2 p.1.kids) := Lib.hid (fun p hp => by
             rcases List.mem_append.1 hp with h | h
             · exact ⟨(HONE.out p h).1, kidsEx_step (HONE.out p h).2 hbC hgrow5 hat6⟩
             · simp only [List.mem_singleton] at h
               subst h
               exact ⟨⟨_, _, _, rfl⟩, kidsEx_new (B := 0) (HK3.out.beneath ((Below.refl w3.heap.size w3).alloc (Nat.le_refl _) _) (Nat.le_refl _) (Nat.le_refl _) (by simp)) hsr (fun k hk => (HOWN.out.lt k hk).2) hgrow5 hat6⟩)
           have HB5 := Lib.hid ((HBEL.out.trans (hbC.mono HBEL.out.size)).grown hgrow5 (by simp; omega) (fun k hk => by have := (HOWN.out.lt k hk).1; omega))
           have hx5 : Blk w5 (w.heap.size + 1) 24 #[Value.string k, Value.string ⟨#[]⟩, vl] := (hgrow5.block _ (by simp; omega) (fun h => by have := (HOWN.out.lt _ h.symm).1; omega)).trans (HX3.out.later ((Below.refl w3.heap.size w3).alloc (Nat.le_refl _) _) HX3.out.lt)
           have hr5 : Blk w5 w.heap.size 24 #[Value.string ⟨#[]⟩, Value.string ⟨#[]⟩, Value.slice none 0 0] := (hgrow5.block _ (by simp; omega) (fun h => by have := (HOWN.out.lt _ h.symm).1; omega)).trans (HBX.out.later hbC HBX.out.lt)
           have z2 := hx5.cell 2 _ rfl
           have zf := hx5.frozen 2
           have HX5 := Lib.hid hx5
           have HR5 := Lib.hid hr5
           have HO5 := Lib.hid hown5
           have hsz5 : w.heap.size + 2 ≤ w5.heap.size := by have := hgrow5.size; simp at this; omega
           clear hown5 hgrow5 hat5 hat6 hbC hx5 hr5))
      all_goals
        go_wp2_with fail
        go_roundw
        case rel => exact ⟨j + 1, l ++ [(m, .slice a2 l2 c2)], .slice (some ⟨gg, 0, none⟩) (j + 1) cap', by omega, by go_num, HR5.out.other _ _ _ (by omega), HX5.out.set 2 _, by rw [rowL_snoc]; exact ownsRow_setCell_below HO5.out (by simp) _, by rw [List.map_append, HFST.out, List.take_add_one, HM.out]; rfl, (fun p hp => ⟨(HONE5.out p hp).1, by have h := (HONE5.out p hp).2.setC (X := w.heap.size + 1) (i := 2) (u := .slice (some ⟨gg, 0, none⟩) (j + 1) cap') (fun h => by have := h.1.1; omega); simpa using h⟩), (fun h => by omega), HB5.out.setCell (by simp) _, by simpa using hsz5⟩
        case measure => simp [intOf]; omega
    · have hjl' : ¬ (j : Int) < (n : Int) := by omega
      have y0 := HBY.out.cell 0 _ rfl
      have y1 := HBY.out.cell 1 _ rfl
      have y2 := HBY.out.cell 2 _ rfl
      have x0 := HBX.out.cell 0 _ rfl
      have x1 := HBX.out.cell 1 _ rfl
      have x2 := HBX.out.cell 2 _ rfl
      have f0 := HBX.out.frozen 0
      have f1 := HBX.out.frozen 1
      have f2 := HBX.out.frozen 2
      have bxl := HBX.out.lt
      have BX := HBX.out
      have hbW := HBEL.out
      obtain ⟨av, lv, cv, rfl⟩ := owns_slice HOWN.out
      have hjn : n = j := by omega
      have HJN := Lib.hid hjn
      clear hjn
      go_wp2_with fail
      refine bodyPost_ret (ret_node rfl _ rfl (Blk.node3 BX)) rfl ⟨⟨_, l, rfl, ?_, ?_, fun p hp => ⟨(HONE.out p hp).1, ?_⟩, fun h => HNIL.out (by have := HJN.out; have := HNN.out; rw [h] at this; simp at this; omega)⟩, ?_⟩
      · rw [HFST.out, List.take_of_length_le (by have := HNN.out; have := HJN.out; omega)]
      · rw [HNN.out, HJN.out]
        exact owns_weak (ownsRow_setCell_below (ownsRow_setCell_below (ownsRow_setCell_below HOWN.out (by simp) _) (by simp) _) (by simp) _) (by omega)
      · have h := (((HONE.out p hp).2.setC (X := w.heap.size) (i := 0) (u := .string k) (fun h => by have := h.1.1; omega)).setC (X := w.heap.size) (i := 1) (u := .string ⟨#[]⟩) (fun h => by have := h.1.1; omega)).setC (X := w.heap.size) (i := 2) (u := .slice av lv cv) (fun h => by have := h.1.1; omega)
        exact h.mono fun b hb => ⟨by have := hb.1.1; omega, by simpa using hb.1.2⟩
      · exact (by repeat (first | (with_reducible exact hbW) | (with_reducible exact Below.refl _ _) | (with_reducible refine Below.alloc ?_ (by first | (simp only [World.size_setCell, World.size_alloc, dsz]; omega) | omega) _) | (with_reducible refine Below.setCell ?_ (by first | (simp only [World.size_setCell, World.size_alloc, dsz]; omega) | omega) _) | (with_reducible refine Below.drew ?_)))

set_option maxHeartbeats 4000000 in
set_option maxRecDepth 100000 in
theorem lb_listIdent {C : Nat → Nat → Value → Prop} (k : ByteArray) (v : Value) (g : Nat) (ks : List N) (V : Nat → Value) (hl : LAt C v ks.length V) (hn : ks.length ≤ 1000000) (hen : Enters Tryz.prog g)
    (hx : ∀ i m, ks[i]? = some m → BkOK g C (V i) m) : LsB C 61 k v g ks := by
  intro w hS
  obtain ⟨i0, hi, hz0, hz1, hz2⟩ := info_parts info24
  obtain ⟨a, cap, rfl, hcap, hel⟩ := hl
  obtain ⟨n, hnn⟩ : ∃ n, ks.length = n := ⟨_, rfl⟩
  have HNN := Lib.hid hnn
  rw [hnn] at hcap hel hn ⊢
  have HI := Lib.hid (And.intro hi (And.intro hz0 (And.intro hz1 hz2)))
  have HS := Lib.hid hS
  have HEL := Lib.hid hel
  have HXX := Lib.hid hx
  have HEN := Lib.hid hen
  clear hi hz0 hz1 hz2 hS hel hx hen hnn
  have BX0 : Blk ((w.alloc (Obj.cells #[Value.string ⟨#[]⟩, Value.string ⟨#[]⟩, Value.slice none 0 0] 24)).alloc (Obj.cells #[Value.string k, Value.string ⟨#[]⟩, Value.slice none 0 0] 24)) w.heap.size 24 #[Value.string ⟨#[]⟩, Value.string ⟨#[]⟩, Value.slice none 0 0] := (Blk.new w _ _).later ((Below.refl (w.heap.size + 1) _).alloc (by simp) _) (by omega)
  have BY0 : Blk ((w.alloc (Obj.cells #[Value.string ⟨#[]⟩, Value.string ⟨#[]⟩, Value.slice none 0 0] 24)).alloc (Obj.cells #[Value.string k, Value.string ⟨#[]⟩, Value.slice none 0 0] 24)) (w.heap.size + 1) 24 #[Value.string k, Value.string ⟨#[]⟩, Value.slice none 0 0] := by simpa using Blk.new (w.alloc (Obj.cells #[Value.string ⟨#[]⟩, Value.string ⟨#[]⟩, Value.slice none 0 0] 24)) #[Value.string k, Value.string ⟨#[]⟩, Value.slice none 0 0] 24
  have HB0 := Lib.hid (And.intro BX0 BY0)
  clear BX0 BY0
  go_enter Tryz.func61, Tryz.ntmps61
  go_wp2_with fail
  go_loopw [14] (fun i wr => ∃ (j : Nat) (l : List (N × Value)) (v : Value), j ≤ n ∧ i = .int .i64 j ∧ Blk wr w.heap.size 24 #[Value.string ⟨#[]⟩, Value.string ⟨#[]⟩, Value.slice none 0 0] ∧ Blk wr (w.heap.size + 1) 24 #[Value.string k, Value.string ⟨#[]⟩, v] ∧ wr.ownsRow (w.heap.size + 2) 24 3 v j (rowL l) ∧ l.map Prod.fst = ks.take j ∧ (∀ p ∈ l, (∃ a n c, p.2 = .slice a n c) ∧ KidsAt (Ex v (w.heap.size + 2) wr.heap.size) wr p.2 p.1.kids) ∧ (j = 0 → v = .slice none 0 0) ∧ Below w.heap.size w wr ∧ w.heap.size + 2 ≤ wr.heap.size)
    (fun i _ => n - (intOf i).toNat)
  case atStart =>
    exact ⟨0, [], .slice none 0 0, Nat.zero_le _, rfl, HB0.out.1, HB0.out.2, World.ownsRow_nil _ _ _ _, rfl, (fun x hx => by simp at hx), (fun _ => rfl), (((Below.refl _ _).alloc (Nat.le_refl _) _).alloc (by simp) _), by simp⟩
  case round =>
    obtain ⟨j, l, vl, hj, rfl, hbx, hby, hown, hfst, hone, hnil, hbel, hsr⟩ := hrel
    have HFST := Lib.hid hfst
    have HONE := Lib.hid hone
    have HNIL := Lib.hid hnil
    clear hone hnil hfst
    have HBX := Lib.hid hbx
    have HBY := Lib.hid hby
    have HOWN := Lib.hid hown
    have HBEL := Lib.hid hbel
    clear hbx hby hown hbel
    by_cases hjl : j < n
    · have hjl' : (j : Int) < (n : Int) := by omega
      obtain ⟨b, o, rfl, hcb⟩ := HEL.out j hjl
      have c0 := (HS.out.later HBEL.out) _ _ _ hcb
      clear hcb
      have hmj : ks[j]? = some (ks[j]'(by have := HNN.out; omega)) := List.getElem?_eq_getElem _
      obtain ⟨m, hm⟩ : ∃ m, ks[j]? = some m := ⟨_, hmj⟩
      have HM := Lib.hid hm
      clear hm hmj
      have y2 := HBY.out.cell 2 _ rfl
      have yf := HBY.out.frozen 2
      have hltx := HBY.out.lt
      go_wp2_with fail
      go_region_law (first
        | (refine step_callv (by rfl) (.tmp 20) g _ _ (by rfl) (by rfl) #[V j] (by first | (simp [Act.eval]; done) | (simp [Act.eval, Act.put]; done) | rfl) HEN.out (HXX.out j m HM.out _ ((HS.out.later HBEL.out).later ((Below.refl _ _).drew))) ?_
           rintro e w3 ⟨⟨a2, l2, c2, rfl, hk3⟩, hb3⟩
           refine ⟨_, rfl, ?_⟩
           have hbA := ((Below.refl wr.heap.size wr).drew).trans (hb3.mono (Nat.le_refl _))
           have hs3 : wr.heap.size ≤ w3.heap.size := hbA.size
           have hx3 := HBY.out.later hbA hltx
           have z2 := hx3.cell 2 _ rfl
           have zf := hx3.frozen 2
           have lt3 := hx3.lt
           have HOWN3 := Lib.hid (owns_kept HOWN.out hbA)
           have HBA := Lib.hid hbA
           have HX3 := Lib.hid hx3
           have HK3 := Lib.hid (show KidsAt (Bt wr.heap.size w3.heap.size) w3 _ _ from hk3)
           clear hb3 hbA hx3 hk3)
        | (refine step_append_lies _ (by rfl) (.tmp 19) (.tmp 23) 22 (by rfl) (w.heap.size + 2) 24 i0 (.agg #[.string ⟨#[]⟩, .string ⟨#[]⟩, .slice none 0 0]) 3 56 under22 HI.out.1 HI.out.2.1 HI.out.2.2.1 HI.out.2.2.2 (by rfl) (by decide) vl j (rowL l) (by simp [Act.eval]) (HOWN3.out.alloc _) ⟨w3.heap.size, 0, none⟩ 1 1 [.string m.kind, .string m.text, .slice a2 l2 c2] (by simp [Act.eval]) (by rfl) (World.news_of_block (heap_alloc_new _ _)) (by simp [Value.oneCell']) (by decide) (by unfold maxLen; omega) (by omega) (by simp; omega) (w3.heap.size + 1) (by simp) ?_
           intro gg cap' w5 hown5 hgrow5 hat5 hlt5
           have hbC := HBA.out.alloc hs3 (.cells #[.string m.kind, .string m.text, .slice a2 l2 c2] 24)
           have hat6 : vl.ownBlock = some gg ∨ (w3.alloc (.cells #[.string m.kind, .string m.text, .slice a2 l2 c2] 24)).heap.size ≤ gg := hat5.imp id (fun h => by simp; omega)
           have HONE5 : Hid (∀ p ∈ l ++ [(m, Value.slice a2 l2 c2)], (∃ a n c, p.2 = .slice a n c) ∧ KidsAt (Ex (.slice (some ⟨gg, 0, none⟩) (j + 1) cap') (w.heap.size + 2) w5.heap.size) w5 p.2 p.1.kids) := Lib.hid (fun p hp => by
             rcases List.mem_append.1 hp with h | h
             · exact ⟨(HONE.out p h).1, kidsEx_step (HONE.out p h).2 hbC hgrow5 hat6⟩
             · simp only [List.mem_singleton] at h
               subst h
               exact ⟨⟨_, _, _, rfl⟩, kidsEx_new (B := 0) (HK3.out.beneath ((Below.refl w3.heap.size w3).alloc (Nat.le_refl _) _) (Nat.le_refl _) (Nat.le_refl _) (by simp)) hsr (fun k hk => (HOWN.out.lt k hk).2) hgrow5 hat6⟩)
           have HB5 := Lib.hid ((HBEL.out.trans (hbC.mono HBEL.out.size)).grown hgrow5 (by simp; omega) (fun k hk => by have := (HOWN.out.lt k hk).1; omega))
           have hx5 : Blk w5 (w.heap.size + 1) 24 #[Value.string k, Value.string ⟨#[]⟩, vl] := (hgrow5.block _ (by simp; omega) (fun h => by have := (HOWN.out.lt _ h.symm).1; omega)).trans (HX3.out.later ((Below.refl w3.heap.size w3).alloc (Nat.le_refl _) _) HX3.out.lt)
           have hr5 : Blk w5 w.heap.size 24 #[Value.string ⟨#[]⟩, Value.string ⟨#[]⟩, Value.slice none 0 0] := (hgrow5.block _ (by simp; omega) (fun h => by have := (HOWN.out.lt _ h.symm).1; omega)).trans (HBX.out.later hbC HBX.out.lt)
           have z2 := hx5.cell 2 _ rfl
           have zf := hx5.frozen 2
           have HX5 := Lib.hid hx5
           have HR5 := Lib.hid hr5
           have HO5 := Lib.hid hown5
           have hsz5 : w.heap.size + 2 ≤ w5.heap.size := by have := hgrow5.size; simp at this; omega
           clear hown5 hgrow5 hat5 hat6 hbC hx5 hr5))
      all_goals
        go_wp2_with fail
        go_roundw
        case rel => exact ⟨j + 1, l ++ [(m, .slice a2 l2 c2)], .slice (some ⟨gg, 0, none⟩) (j + 1) cap', by omega, by go_num, HR5.out.other _ _ _ (by omega), HX5.out.set 2 _, by rw [rowL_snoc]; exact ownsRow_setCell_below HO5.out (by simp) _, by rw [List.map_append, HFST.out, List.take_add_one, HM.out]; rfl, (fun p hp => ⟨(HONE5.out p hp).1, by have h := (HONE5.out p hp).2.setC (X := w.heap.size + 1) (i := 2) (u := .slice (some ⟨gg, 0, none⟩) (j + 1) cap') (fun h => by have := h.1.1; omega); simpa using h⟩), (fun h => by omega), HB5.out.setCell (by simp) _, by simpa using hsz5⟩
        case measure => simp [intOf]; omega
    · have hjl' : ¬ (j : Int) < (n : Int) := by omega
      have y0 := HBY.out.cell 0 _ rfl
      have y1 := HBY.out.cell 1 _ rfl
      have y2 := HBY.out.cell 2 _ rfl
      have x0 := HBX.out.cell 0 _ rfl
      have x1 := HBX.out.cell 1 _ rfl
      have x2 := HBX.out.cell 2 _ rfl
      have f0 := HBX.out.frozen 0
      have f1 := HBX.out.frozen 1
      have f2 := HBX.out.frozen 2
      have bxl := HBX.out.lt
      have BX := HBX.out
      have hbW := HBEL.out
      obtain ⟨av, lv, cv, rfl⟩ := owns_slice HOWN.out
      have hjn : n = j := by omega
      have HJN := Lib.hid hjn
      clear hjn
      go_wp2_with fail
      refine bodyPost_ret (ret_node rfl _ rfl (Blk.node3 BX)) rfl ⟨⟨_, l, rfl, ?_, ?_, fun p hp => ⟨(HONE.out p hp).1, ?_⟩, fun h => HNIL.out (by have := HJN.out; have := HNN.out; rw [h] at this; simp at this; omega)⟩, ?_⟩
      · rw [HFST.out, List.take_of_length_le (by have := HNN.out; have := HJN.out; omega)]
      · rw [HNN.out, HJN.out]
        exact owns_weak (ownsRow_setCell_below (ownsRow_setCell_below (ownsRow_setCell_below HOWN.out (by simp) _) (by simp) _) (by simp) _) (by omega)
      · have h := (((HONE.out p hp).2.setC (X := w.heap.size) (i := 0) (u := .string k) (fun h => by have := h.1.1; omega)).setC (X := w.heap.size) (i := 1) (u := .string ⟨#[]⟩) (fun h => by have := h.1.1; omega)).setC (X := w.heap.size) (i := 2) (u := .slice av lv cv) (fun h => by have := h.1.1; omega)
        exact h.mono fun b hb => ⟨by have := hb.1.1; omega, by simpa using hb.1.2⟩
      · exact (by repeat (first | (with_reducible exact hbW) | (with_reducible exact Below.refl _ _) | (with_reducible refine Below.alloc ?_ (by first | (simp only [World.size_setCell, World.size_alloc, dsz]; omega) | omega) _) | (with_reducible refine Below.setCell ?_ (by first | (simp only [World.size_setCell, World.size_alloc, dsz]; omega) | omega) _) | (with_reducible refine Below.drew ?_)))

set_option maxHeartbeats 4000000 in
set_option maxRecDepth 100000 in
theorem lb_listExpr {C : Nat → Nat → Value → Prop} (k : ByteArray) (v : Value) (g : Nat) (ks : List N) (V : Nat → Value) (hl : LAt C v ks.length V) (hn : ks.length ≤ 1000000) (hen : Enters Tryz.prog g)
    (hx : ∀ i m, ks[i]? = some m → BkOK g C (V i) m) : LsB C 62 k v g ks := by
  intro w hS
  obtain ⟨i0, hi, hz0, hz1, hz2⟩ := info_parts info24
  obtain ⟨a, cap, rfl, hcap, hel⟩ := hl
  obtain ⟨n, hnn⟩ : ∃ n, ks.length = n := ⟨_, rfl⟩
  have HNN := Lib.hid hnn
  rw [hnn] at hcap hel hn ⊢
  have HI := Lib.hid (And.intro hi (And.intro hz0 (And.intro hz1 hz2)))
  have HS := Lib.hid hS
  have HEL := Lib.hid hel
  have HXX := Lib.hid hx
  have HEN := Lib.hid hen
  clear hi hz0 hz1 hz2 hS hel hx hen hnn
  have BX0 : Blk ((w.alloc (Obj.cells #[Value.string ⟨#[]⟩, Value.string ⟨#[]⟩, Value.slice none 0 0] 24)).alloc (Obj.cells #[Value.string k, Value.string ⟨#[]⟩, Value.slice none 0 0] 24)) w.heap.size 24 #[Value.string ⟨#[]⟩, Value.string ⟨#[]⟩, Value.slice none 0 0] := (Blk.new w _ _).later ((Below.refl (w.heap.size + 1) _).alloc (by simp) _) (by omega)
  have BY0 : Blk ((w.alloc (Obj.cells #[Value.string ⟨#[]⟩, Value.string ⟨#[]⟩, Value.slice none 0 0] 24)).alloc (Obj.cells #[Value.string k, Value.string ⟨#[]⟩, Value.slice none 0 0] 24)) (w.heap.size + 1) 24 #[Value.string k, Value.string ⟨#[]⟩, Value.slice none 0 0] := by simpa using Blk.new (w.alloc (Obj.cells #[Value.string ⟨#[]⟩, Value.string ⟨#[]⟩, Value.slice none 0 0] 24)) #[Value.string k, Value.string ⟨#[]⟩, Value.slice none 0 0] 24
  have HB0 := Lib.hid (And.intro BX0 BY0)
  clear BX0 BY0
  go_enter Tryz.func62, Tryz.ntmps62
  go_wp2_with fail
  go_loopw [14] (fun i wr => ∃ (j : Nat) (l : List (N × Value)) (v : Value), j ≤ n ∧ i = .int .i64 j ∧ Blk wr w.heap.size 24 #[Value.string ⟨#[]⟩, Value.string ⟨#[]⟩, Value.slice none 0 0] ∧ Blk wr (w.heap.size + 1) 24 #[Value.string k, Value.string ⟨#[]⟩, v] ∧ wr.ownsRow (w.heap.size + 2) 24 3 v j (rowL l) ∧ l.map Prod.fst = ks.take j ∧ (∀ p ∈ l, (∃ a n c, p.2 = .slice a n c) ∧ KidsAt (Ex v (w.heap.size + 2) wr.heap.size) wr p.2 p.1.kids) ∧ (j = 0 → v = .slice none 0 0) ∧ Below w.heap.size w wr ∧ w.heap.size + 2 ≤ wr.heap.size)
    (fun i _ => n - (intOf i).toNat)
  case atStart =>
    exact ⟨0, [], .slice none 0 0, Nat.zero_le _, rfl, HB0.out.1, HB0.out.2, World.ownsRow_nil _ _ _ _, rfl, (fun x hx => by simp at hx), (fun _ => rfl), (((Below.refl _ _).alloc (Nat.le_refl _) _).alloc (by simp) _), by simp⟩
  case round =>
    obtain ⟨j, l, vl, hj, rfl, hbx, hby, hown, hfst, hone, hnil, hbel, hsr⟩ := hrel
    have HFST := Lib.hid hfst
    have HONE := Lib.hid hone
    have HNIL := Lib.hid hnil
    clear hone hnil hfst
    have HBX := Lib.hid hbx
    have HBY := Lib.hid hby
    have HOWN := Lib.hid hown
    have HBEL := Lib.hid hbel
    clear hbx hby hown hbel
    by_cases hjl : j < n
    · have hjl' : (j : Int) < (n : Int) := by omega
      obtain ⟨b, o, rfl, hcb⟩ := HEL.out j hjl
      have c0 := (HS.out.later HBEL.out) _ _ _ hcb
      clear hcb
      have hmj : ks[j]? = some (ks[j]'(by have := HNN.out; omega)) := List.getElem?_eq_getElem _
      obtain ⟨m, hm⟩ : ∃ m, ks[j]? = some m := ⟨_, hmj⟩
      have HM := Lib.hid hm
      clear hm hmj
      have y2 := HBY.out.cell 2 _ rfl
      have yf := HBY.out.frozen 2
      have hltx := HBY.out.lt
      go_wp2_with fail
      go_region_law (first
        | (refine step_callv (by rfl) (.tmp 20) g _ _ (by rfl) (by rfl) #[V j] (by first | (simp [Act.eval]; done) | (simp [Act.eval, Act.put]; done) | rfl) HEN.out (HXX.out j m HM.out _ ((HS.out.later HBEL.out).later ((Below.refl _ _).drew))) ?_
           rintro e w3 ⟨⟨a2, l2, c2, rfl, hk3⟩, hb3⟩
           refine ⟨_, rfl, ?_⟩
           have hbA := ((Below.refl wr.heap.size wr).drew).trans (hb3.mono (Nat.le_refl _))
           have hs3 : wr.heap.size ≤ w3.heap.size := hbA.size
           have hx3 := HBY.out.later hbA hltx
           have z2 := hx3.cell 2 _ rfl
           have zf := hx3.frozen 2
           have lt3 := hx3.lt
           have HOWN3 := Lib.hid (owns_kept HOWN.out hbA)
           have HBA := Lib.hid hbA
           have HX3 := Lib.hid hx3
           have HK3 := Lib.hid (show KidsAt (Bt wr.heap.size w3.heap.size) w3 _ _ from hk3)
           clear hb3 hbA hx3 hk3)
        | (refine step_append_lies _ (by rfl) (.tmp 19) (.tmp 23) 22 (by rfl) (w.heap.size + 2) 24 i0 (.agg #[.string ⟨#[]⟩, .string ⟨#[]⟩, .slice none 0 0]) 3 56 under22 HI.out.1 HI.out.2.1 HI.out.2.2.1 HI.out.2.2.2 (by rfl) (by decide) vl j (rowL l) (by simp [Act.eval]) (HOWN3.out.alloc _) ⟨w3.heap.size, 0, none⟩ 1 1 [.string m.kind, .string m.text, .slice a2 l2 c2] (by simp [Act.eval]) (by rfl) (World.news_of_block (heap_alloc_new _ _)) (by simp [Value.oneCell']) (by decide) (by unfold maxLen; omega) (by omega) (by simp; omega) (w3.heap.size + 1) (by simp) ?_
           intro gg cap' w5 hown5 hgrow5 hat5 hlt5
           have hbC := HBA.out.alloc hs3 (.cells #[.string m.kind, .string m.text, .slice a2 l2 c2] 24)
           have hat6 : vl.ownBlock = some gg ∨ (w3.alloc (.cells #[.string m.kind, .string m.text, .slice a2 l2 c2] 24)).heap.size ≤ gg := hat5.imp id (fun h => by simp; omega)
           have HONE5 : Hid (∀ p ∈ l ++ [(m, Value.slice a2 l2 c2)], (∃ a n c, p.2 = .slice a n c) ∧ KidsAt (Ex (.slice (some ⟨gg, 0, none⟩) (j + 1) cap') (w.heap.size + 2) w5.heap.size) w5 p.2 p.1.kids) := Lib.hid (fun p hp => by
             rcases List.mem_append.1 hp with h | h
             · exact ⟨(HONE.out p h).1, kidsEx_step (HONE.out p h).2 hbC hgrow5 hat6⟩
             · simp only [List.mem_singleton] at h
               subst h
               exact ⟨⟨_, _, _, rfl⟩, kidsEx_new (B := 0) (HK3.out.beneath ((Below.refl w3.heap.size w3).alloc (Nat.le_refl _) _) (Nat.le_refl _) (Nat.le_refl _) (by simp)) hsr (fun k hk => (HOWN.out.lt k hk).2) hgrow5 hat6⟩)
           have HB5 := Lib.hid ((HBEL.out.trans (hbC.mono HBEL.out.size)).grown hgrow5 (by simp; omega) (fun k hk => by have := (HOWN.out.lt k hk).1; omega))
           have hx5 : Blk w5 (w.heap.size + 1) 24 #[Value.string k, Value.string ⟨#[]⟩, vl] := (hgrow5.block _ (by simp; omega) (fun h => by have := (HOWN.out.lt _ h.symm).1; omega)).trans (HX3.out.later ((Below.refl w3.heap.size w3).alloc (Nat.le_refl _) _) HX3.out.lt)
           have hr5 : Blk w5 w.heap.size 24 #[Value.string ⟨#[]⟩, Value.string ⟨#[]⟩, Value.slice none 0 0] := (hgrow5.block _ (by simp; omega) (fun h => by have := (HOWN.out.lt _ h.symm).1; omega)).trans (HBX.out.later hbC HBX.out.lt)
           have z2 := hx5.cell 2 _ rfl
           have zf := hx5.frozen 2
           have HX5 := Lib.hid hx5
           have HR5 := Lib.hid hr5
           have HO5 := Lib.hid hown5
           have hsz5 : w.heap.size + 2 ≤ w5.heap.size := by have := hgrow5.size; simp at this; omega
           clear hown5 hgrow5 hat5 hat6 hbC hx5 hr5))
      all_goals
        go_wp2_with fail
        go_roundw
        case rel => exact ⟨j + 1, l ++ [(m, .slice a2 l2 c2)], .slice (some ⟨gg, 0, none⟩) (j + 1) cap', by omega, by go_num, HR5.out.other _ _ _ (by omega), HX5.out.set 2 _, by rw [rowL_snoc]; exact ownsRow_setCell_below HO5.out (by simp) _, by rw [List.map_append, HFST.out, List.take_add_one, HM.out]; rfl, (fun p hp => ⟨(HONE5.out p hp).1, by have h := (HONE5.out p hp).2.setC (X := w.heap.size + 1) (i := 2) (u := .slice (some ⟨gg, 0, none⟩) (j + 1) cap') (fun h => by have := h.1.1; omega); simpa using h⟩), (fun h => by omega), HB5.out.setCell (by simp) _, by simpa using hsz5⟩
        case measure => simp [intOf]; omega
    · have hjl' : ¬ (j : Int) < (n : Int) := by omega
      have y0 := HBY.out.cell 0 _ rfl
      have y1 := HBY.out.cell 1 _ rfl
      have y2 := HBY.out.cell 2 _ rfl
      have x0 := HBX.out.cell 0 _ rfl
      have x1 := HBX.out.cell 1 _ rfl
      have x2 := HBX.out.cell 2 _ rfl
      have f0 := HBX.out.frozen 0
      have f1 := HBX.out.frozen 1
      have f2 := HBX.out.frozen 2
      have bxl := HBX.out.lt
      have BX := HBX.out
      have hbW := HBEL.out
      obtain ⟨av, lv, cv, rfl⟩ := owns_slice HOWN.out
      have hjn : n = j := by omega
      have HJN := Lib.hid hjn
      clear hjn
      go_wp2_with fail
      refine bodyPost_ret (ret_node rfl _ rfl (Blk.node3 BX)) rfl ⟨⟨_, l, rfl, ?_, ?_, fun p hp => ⟨(HONE.out p hp).1, ?_⟩, fun h => HNIL.out (by have := HJN.out; have := HNN.out; rw [h] at this; simp at this; omega)⟩, ?_⟩
      · rw [HFST.out, List.take_of_length_le (by have := HNN.out; have := HJN.out; omega)]
      · rw [HNN.out, HJN.out]
        exact owns_weak (ownsRow_setCell_below (ownsRow_setCell_below (ownsRow_setCell_below HOWN.out (by simp) _) (by simp) _) (by simp) _) (by omega)
      · have h := (((HONE.out p hp).2.setC (X := w.heap.size) (i := 0) (u := .string k) (fun h => by have := h.1.1; omega)).setC (X := w.heap.size) (i := 1) (u := .string ⟨#[]⟩) (fun h => by have := h.1.1; omega)).setC (X := w.heap.size) (i := 2) (u := .slice av lv cv) (fun h => by have := h.1.1; omega)
        exact h.mono fun b hb => ⟨by have := hb.1.1; omega, by simpa using hb.1.2⟩
      · exact (by repeat (first | (with_reducible exact hbW) | (with_reducible exact Below.refl _ _) | (with_reducible refine Below.alloc ?_ (by first | (simp only [World.size_setCell, World.size_alloc, dsz]; omega) | omega) _) | (with_reducible refine Below.setCell ?_ (by first | (simp only [World.size_setCell, World.size_alloc, dsz]; omega) | omega) _) | (with_reducible refine Below.drew ?_)))

set_option maxHeartbeats 4000000 in
set_option maxRecDepth 100000 in
theorem lb_listField {C : Nat → Nat → Value → Prop} (k : ByteArray) (v : Value) (g : Nat) (ks : List N) (V : Nat → Value) (hl : LAt C v ks.length V) (hn : ks.length ≤ 1000000) (hen : Enters Tryz.prog g)
    (hx : ∀ i m, ks[i]? = some m → BkOK g C (V i) m) : LsB C 64 k v g ks := by
  intro w hS
  obtain ⟨i0, hi, hz0, hz1, hz2⟩ := info_parts info24
  obtain ⟨a, cap, rfl, hcap, hel⟩ := hl
  obtain ⟨n, hnn⟩ : ∃ n, ks.length = n := ⟨_, rfl⟩
  have HNN := Lib.hid hnn
  rw [hnn] at hcap hel hn ⊢
  have HI := Lib.hid (And.intro hi (And.intro hz0 (And.intro hz1 hz2)))
  have HS := Lib.hid hS
  have HEL := Lib.hid hel
  have HXX := Lib.hid hx
  have HEN := Lib.hid hen
  clear hi hz0 hz1 hz2 hS hel hx hen hnn
  have BX0 : Blk ((w.alloc (Obj.cells #[Value.string ⟨#[]⟩, Value.string ⟨#[]⟩, Value.slice none 0 0] 24)).alloc (Obj.cells #[Value.string k, Value.string ⟨#[]⟩, Value.slice none 0 0] 24)) w.heap.size 24 #[Value.string ⟨#[]⟩, Value.string ⟨#[]⟩, Value.slice none 0 0] := (Blk.new w _ _).later ((Below.refl (w.heap.size + 1) _).alloc (by simp) _) (by omega)
  have BY0 : Blk ((w.alloc (Obj.cells #[Value.string ⟨#[]⟩, Value.string ⟨#[]⟩, Value.slice none 0 0] 24)).alloc (Obj.cells #[Value.string k, Value.string ⟨#[]⟩, Value.slice none 0 0] 24)) (w.heap.size + 1) 24 #[Value.string k, Value.string ⟨#[]⟩, Value.slice none 0 0] := by simpa using Blk.new (w.alloc (Obj.cells #[Value.string ⟨#[]⟩, Value.string ⟨#[]⟩, Value.slice none 0 0] 24)) #[Value.string k, Value.string ⟨#[]⟩, Value.slice none 0 0] 24
  have HB0 := Lib.hid (And.intro BX0 BY0)
  clear BX0 BY0
  go_enter Tryz.func64, Tryz.ntmps64
  go_wp2_with fail
  go_loopw [14] (fun i wr => ∃ (j : Nat) (l : List (N × Value)) (v : Value), j ≤ n ∧ i = .int .i64 j ∧ Blk wr w.heap.size 24 #[Value.string ⟨#[]⟩, Value.string ⟨#[]⟩, Value.slice none 0 0] ∧ Blk wr (w.heap.size + 1) 24 #[Value.string k, Value.string ⟨#[]⟩, v] ∧ wr.ownsRow (w.heap.size + 2) 24 3 v j (rowL l) ∧ l.map Prod.fst = ks.take j ∧ (∀ p ∈ l, (∃ a n c, p.2 = .slice a n c) ∧ KidsAt (Ex v (w.heap.size + 2) wr.heap.size) wr p.2 p.1.kids) ∧ (j = 0 → v = .slice none 0 0) ∧ Below w.heap.size w wr ∧ w.heap.size + 2 ≤ wr.heap.size)
    (fun i _ => n - (intOf i).toNat)
  case atStart =>
    exact ⟨0, [], .slice none 0 0, Nat.zero_le _, rfl, HB0.out.1, HB0.out.2, World.ownsRow_nil _ _ _ _, rfl, (fun x hx => by simp at hx), (fun _ => rfl), (((Below.refl _ _).alloc (Nat.le_refl _) _).alloc (by simp) _), by simp⟩
  case round =>
    obtain ⟨j, l, vl, hj, rfl, hbx, hby, hown, hfst, hone, hnil, hbel, hsr⟩ := hrel
    have HFST := Lib.hid hfst
    have HONE := Lib.hid hone
    have HNIL := Lib.hid hnil
    clear hone hnil hfst
    have HBX := Lib.hid hbx
    have HBY := Lib.hid hby
    have HOWN := Lib.hid hown
    have HBEL := Lib.hid hbel
    clear hbx hby hown hbel
    by_cases hjl : j < n
    · have hjl' : (j : Int) < (n : Int) := by omega
      obtain ⟨b, o, rfl, hcb⟩ := HEL.out j hjl
      have c0 := (HS.out.later HBEL.out) _ _ _ hcb
      clear hcb
      have hmj : ks[j]? = some (ks[j]'(by have := HNN.out; omega)) := List.getElem?_eq_getElem _
      obtain ⟨m, hm⟩ : ∃ m, ks[j]? = some m := ⟨_, hmj⟩
      have HM := Lib.hid hm
      clear hm hmj
      have y2 := HBY.out.cell 2 _ rfl
      have yf := HBY.out.frozen 2
      have hltx := HBY.out.lt
      go_wp2_with fail
      go_region_law (first
        | (refine step_callv (by rfl) (.tmp 20) g _ _ (by rfl) (by rfl) #[V j] (by first | (simp [Act.eval]; done) | (simp [Act.eval, Act.put]; done) | rfl) HEN.out (HXX.out j m HM.out _ ((HS.out.later HBEL.out).later ((Below.refl _ _).drew))) ?_
           rintro e w3 ⟨⟨a2, l2, c2, rfl, hk3⟩, hb3⟩
           refine ⟨_, rfl, ?_⟩
           have hbA := ((Below.refl wr.heap.size wr).drew).trans (hb3.mono (Nat.le_refl _))
           have hs3 : wr.heap.size ≤ w3.heap.size := hbA.size
           have hx3 := HBY.out.later hbA hltx
           have z2 := hx3.cell 2 _ rfl
           have zf := hx3.frozen 2
           have lt3 := hx3.lt
           have HOWN3 := Lib.hid (owns_kept HOWN.out hbA)
           have HBA := Lib.hid hbA
           have HX3 := Lib.hid hx3
           have HK3 := Lib.hid (show KidsAt (Bt wr.heap.size w3.heap.size) w3 _ _ from hk3)
           clear hb3 hbA hx3 hk3)
        | (refine step_append_lies _ (by rfl) (.tmp 19) (.tmp 23) 22 (by rfl) (w.heap.size + 2) 24 i0 (.agg #[.string ⟨#[]⟩, .string ⟨#[]⟩, .slice none 0 0]) 3 56 under22 HI.out.1 HI.out.2.1 HI.out.2.2.1 HI.out.2.2.2 (by rfl) (by decide) vl j (rowL l) (by simp [Act.eval]) (HOWN3.out.alloc _) ⟨w3.heap.size, 0, none⟩ 1 1 [.string m.kind, .string m.text, .slice a2 l2 c2] (by simp [Act.eval]) (by rfl) (World.news_of_block (heap_alloc_new _ _)) (by simp [Value.oneCell']) (by decide) (by unfold maxLen; omega) (by omega) (by simp; omega) (w3.heap.size + 1) (by simp) ?_
           intro gg cap' w5 hown5 hgrow5 hat5 hlt5
           have hbC := HBA.out.alloc hs3 (.cells #[.string m.kind, .string m.text, .slice a2 l2 c2] 24)
           have hat6 : vl.ownBlock = some gg ∨ (w3.alloc (.cells #[.string m.kind, .string m.text, .slice a2 l2 c2] 24)).heap.size ≤ gg := hat5.imp id (fun h => by simp; omega)
           have HONE5 : Hid (∀ p ∈ l ++ [(m, Value.slice a2 l2 c2)], (∃ a n c, p.2 = .slice a n c) ∧ KidsAt (Ex (.slice (some ⟨gg, 0, none⟩) (j + 1) cap') (w.heap.size + 2) w5.heap.size) w5 p.2 p.1.kids) := Lib.hid (fun p hp => by
             rcases List.mem_append.1 hp with h | h
             · exact ⟨(HONE.out p h).1, kidsEx_step (HONE.out p h).2 hbC hgrow5 hat6⟩
             · simp only [List.mem_singleton] at h
               subst h
               exact ⟨⟨_, _, _, rfl⟩, kidsEx_new (B := 0) (HK3.out.beneath ((Below.refl w3.heap.size w3).alloc (Nat.le_refl _) _) (Nat.le_refl _) (Nat.le_refl _) (by simp)) hsr (fun k hk => (HOWN.out.lt k hk).2) hgrow5 hat6⟩)
           have HB5 := Lib.hid ((HBEL.out.trans (hbC.mono HBEL.out.size)).grown hgrow5 (by simp; omega) (fun k hk => by have := (HOWN.out.lt k hk).1; omega))
           have hx5 : Blk w5 (w.heap.size + 1) 24 #[Value.string k, Value.string ⟨#[]⟩, vl] := (hgrow5.block _ (by simp; omega) (fun h => by have := (HOWN.out.lt _ h.symm).1; omega)).trans (HX3.out.later ((Below.refl w3.heap.size w3).alloc (Nat.le_refl _) _) HX3.out.lt)
           have hr5 : Blk w5 w.heap.size 24 #[Value.string ⟨#[]⟩, Value.string ⟨#[]⟩, Value.slice none 0 0] := (hgrow5.block _ (by simp; omega) (fun h => by have := (HOWN.out.lt _ h.symm).1; omega)).trans (HBX.out.later hbC HBX.out.lt)
           have z2 := hx5.cell 2 _ rfl
           have zf := hx5.frozen 2
           have HX5 := Lib.hid hx5
           have HR5 := Lib.hid hr5
           have HO5 := Lib.hid hown5
           have hsz5 : w.heap.size + 2 ≤ w5.heap.size := by have := hgrow5.size; simp at this; omega
           clear hown5 hgrow5 hat5 hat6 hbC hx5 hr5))
      all_goals
        go_wp2_with fail
        go_roundw
        case rel => exact ⟨j + 1, l ++ [(m, .slice a2 l2 c2)], .slice (some ⟨gg, 0, none⟩) (j + 1) cap', by omega, by go_num, HR5.out.other _ _ _ (by omega), HX5.out.set 2 _, by rw [rowL_snoc]; exact ownsRow_setCell_below HO5.out (by simp) _, by rw [List.map_append, HFST.out, List.take_add_one, HM.out]; rfl, (fun p hp => ⟨(HONE5.out p hp).1, by have h := (HONE5.out p hp).2.setC (X := w.heap.size + 1) (i := 2) (u := .slice (some ⟨gg, 0, none⟩) (j + 1) cap') (fun h => by have := h.1.1; omega); simpa using h⟩), (fun h => by omega), HB5.out.setCell (by simp) _, by simpa using hsz5⟩
        case measure => simp [intOf]; omega
    · have hjl' : ¬ (j : Int) < (n : Int) := by omega
      have y0 := HBY.out.cell 0 _ rfl
      have y1 := HBY.out.cell 1 _ rfl
      have y2 := HBY.out.cell 2 _ rfl
      have x0 := HBX.out.cell 0 _ rfl
      have x1 := HBX.out.cell 1 _ rfl
      have x2 := HBX.out.cell 2 _ rfl
      have f0 := HBX.out.frozen 0
      have f1 := HBX.out.frozen 1
      have f2 := HBX.out.frozen 2
      have bxl := HBX.out.lt
      have BX := HBX.out
      have hbW := HBEL.out
      obtain ⟨av, lv, cv, rfl⟩ := owns_slice HOWN.out
      have hjn : n = j := by omega
      have HJN := Lib.hid hjn
      clear hjn
      go_wp2_with fail
      refine bodyPost_ret (ret_node rfl _ rfl (Blk.node3 BX)) rfl ⟨⟨_, l, rfl, ?_, ?_, fun p hp => ⟨(HONE.out p hp).1, ?_⟩, fun h => HNIL.out (by have := HJN.out; have := HNN.out; rw [h] at this; simp at this; omega)⟩, ?_⟩
      · rw [HFST.out, List.take_of_length_le (by have := HNN.out; have := HJN.out; omega)]
      · rw [HNN.out, HJN.out]
        exact owns_weak (ownsRow_setCell_below (ownsRow_setCell_below (ownsRow_setCell_below HOWN.out (by simp) _) (by simp) _) (by simp) _) (by omega)
      · have h := (((HONE.out p hp).2.setC (X := w.heap.size) (i := 0) (u := .string k) (fun h => by have := h.1.1; omega)).setC (X := w.heap.size) (i := 1) (u := .string ⟨#[]⟩) (fun h => by have := h.1.1; omega)).setC (X := w.heap.size) (i := 2) (u := .slice av lv cv) (fun h => by have := h.1.1; omega)
        exact h.mono fun b hb => ⟨by have := hb.1.1; omega, by simpa using hb.1.2⟩
      · exact (by repeat (first | (with_reducible exact hbW) | (with_reducible exact Below.refl _ _) | (with_reducible refine Below.alloc ?_ (by first | (simp only [World.size_setCell, World.size_alloc, dsz]; omega) | omega) _) | (with_reducible refine Below.setCell ?_ (by first | (simp only [World.size_setCell, World.size_alloc, dsz]; omega) | omega) _) | (with_reducible refine Below.drew ?_)))
end Go.Proofs.YtoijkbkcfbbmfaaGreatDoor

/- What is proved here: field, turning a field into a node again: the node reads as the tree that the field was made of. -/
namespace Go.Proofs.YtoijkbkcfbbmfaaGreatDoor
open Go.RowKit Go.Shelf
set_option linter.unusedVariables false
set_option linter.unusedSimpArgs false
attribute [local go_sem ↓] Go.wp_at_zero Go.wp_at_succ
theorem step_append_zero {ops : Array Oper} {o : Oper} {a : Act} {w : World} {K : Act → World → Prop} {Q : Exit → Act → World → Prop} {E : Prop} (hgd : o.guard = none) (s x : Operand)
    (ho : o.op = .call { callee := .builtin .append, args := #[s, x], argTypes := #[22, 22] }) (ad : Addr) (n c : Nat) (hnc : n ≤ c) (hs : a.eval s = .slice (some ad) n c) (hx : a.eval x = .slice none 0 0)
    (h : K (a.put o.dst (.slice (some ad) n c)) w) : if Region.wanted o (yielded ops a.tmps) = true then Oper.wp Tryz.prog o a w K Q else E := by
  have hw : Region.wanted o (yielded ops a.tmps) = true := by simp [Region.wanted, hgd]
  rw [if_pos hw]
  obtain ⟨i0, hi, hz0, hz1, hz2⟩ := info_parts info24
  have hr := run_underlying (w := w) under22
  have hsz : (sizeOf 24).run Tryz.prog w = .ok 3 w := by rw [run_sizeOf w hi]; simp [Program.cellsOf, hi, hz1]
  have hex : (execOp a.eval o).run Tryz.prog w = .ok (.value (.slice (some ad) n c)) w := by
    simp [execOp, ho, resolve, invoke, builtin, Builtin.append_, hs, hx, hr, hsz, Builtin.lenOf, Builtin.firstCells, hnc, storeCells]
  unfold Oper.wp
  rw [hex, Oper.upon_value]
  exact h
theorem own_one (w : World) (a b c : Value) : (w.alloc (.cells #[a, b, c] 24)).ownsRow w.heap.size 24 3 (.slice (some ⟨w.heap.size, 0, none⟩) 1 1) 1 [a, b, c] :=
  ⟨rfl, .inr ⟨_, 1, #[a, b, c], rfl, Nat.le_refl _, heap_alloc_new _ _, Nat.le_refl _, by decide, rfl, rfl⟩⟩
theorem owns_cells {w : World} {B n g cap : Nat} {L : List Value} (h : w.ownsRow B 24 3 (.slice (some ⟨g, 0, none⟩) n cap) n L) : ∀ j u, L[j]? = some u → w.cell? ((⟨g, 0, none⟩ : Addr).add j) = some u := fun j u hj => h.cells rfl j u hj
/-- Some blocks but one. -/
def Nt (lo Y hi b : Nat) : Prop := (lo ≤ b ∧ b < hi) ∧ b ≠ Y
theorem KidsAt.nt {lo Y hi lo' hi' B : Nat} {w w' : World} {v : Value} {ks : List N} (h : KidsAt (Bt lo hi) w v ks) (hb : Below B w w') (h1 : lo' ≤ lo) (h2 : hi ≤ B) (h3 : hi ≤ hi') (hY : Y < lo ∨ hi ≤ Y) : KidsAt (Nt lo' Y hi') w' v ks :=
  (h.same fun b hlt => hb.block b (Nat.lt_of_lt_of_le hlt.2 h2)).mono fun b hb => ⟨⟨Nat.le_trans h1 hb.1, Nat.lt_of_lt_of_le hb.2 h3⟩, by have := hb.1; have := hb.2; omega⟩
theorem KidsAt.ntY {lo Y hi i : Nat} {w : World} {v u : Value} {ks : List N} (h : KidsAt (Nt lo Y hi) w v ks) : KidsAt (Nt lo Y hi) (w.setCell ⟨Y, i, none⟩ u) v ks := h.setC fun hh => hh.2 rfl
theorem KidsAt.ntX {lo X Y hi i : Nat} {w : World} {v u : Value} {ks : List N} (h : KidsAt (Nt lo Y hi) w v ks) (hX : X < lo) : KidsAt (Nt lo Y hi) (w.setCell ⟨X, i, none⟩ u) v ks := h.setC fun hh => by have := hh.1.1; omega
theorem KidsAt.toBt {lo lo' Y hi hi' : Nat} {w : World} {v : Value} {ks : List N} (h : KidsAt (Nt lo Y hi) w v ks) (h1 : lo' ≤ lo) (h3 : hi ≤ hi') : KidsAt (Bt lo' hi') w v ks :=
  h.mono fun b hb => ⟨Nat.le_trans h1 hb.1.1, Nat.lt_of_lt_of_le hb.1.2 h3⟩

set_option maxHeartbeats 4000000 in
set_option maxRecDepth 100000 in
theorem fb_00 {C : Nat → Nat → Value → Prop} (b  : Nat) (vl vx : Value) (x : N) (hx0 : LsB C 61 ⟨#[102, 105, 101, 108, 100]⟩ vl 60 []) (hx1 : ExB C vx x) (w : World) (hS : Sees C w) (c0 : C b 1 (vl)) (c1 : C b 2 (vx)) (c2 : C b 3 (Value.pointer none)) :
    Calls Tryz.prog 65 #[Pt b] w fun e w' => Back w.heap.size (.mk ⟨#[102, 105, 101, 108, 100]⟩ ⟨#[]⟩ (x :: [])) e w' ∧ Below w.heap.size w w' := by
  have h0 := hS _ _ _ c0
  have ltb := hS.lt c0
  have n0 := World.new_ne w ⟨b, 1, none⟩ h0
  have h1 := hS _ _ _ c1
  have n1 := World.new_ne w ⟨b, 2, none⟩ h1
  have h2 := hS _ _ _ c2
  have n2 := World.new_ne w ⟨b, 3, none⟩ h2
  have HS := Lib.hid hS
  obtain ⟨i0, hi, hz0, hz1, hz2⟩ := info_parts info24
  have HI := Lib.hid (And.intro hi (And.intro hz0 (And.intro hz1 hz2)))
  have BX : Blk (w.alloc (Obj.cells #[Value.string ⟨#[]⟩, Value.string ⟨#[]⟩, Value.slice none 0 0] 24)) w.heap.size 24 #[Value.string ⟨#[]⟩, Value.string ⟨#[]⟩, Value.slice none 0 0] := Blk.new w _ _
  clear hS hi hz0 hz1 hz2 c0 c1 c2
  go_enter Tryz.func65, Tryz.ntmps65
  go_wp2_with fail
  refine (hx0 _ (HS.out.later (by repeat (first | (with_reducible exact hbW) | (with_reducible exact Below.refl _ _) | (with_reducible refine Below.alloc ?_ (by first | (simp only [World.size_setCell, World.size_alloc, dsz]; omega) | omega) _) | (with_reducible refine Below.setCell ?_ (by first | (simp only [World.size_setCell, World.size_alloc, dsz]; omega) | omega) _) | (with_reducible refine Below.drew ?_))))).mono ?_
  rintro e w2 ⟨⟨u, l, rfl, hfst, hrow, hone, hnil⟩, hb2⟩
  have hbW := Below.trans (show Below w.heap.size w _ from (by repeat (first | (with_reducible exact hbW) | (with_reducible exact Below.refl _ _) | (with_reducible refine Below.alloc ?_ (by first | (simp only [World.size_setCell, World.size_alloc, dsz]; omega) | omega) _) | (with_reducible refine Below.setCell ?_ (by first | (simp only [World.size_setCell, World.size_alloc, dsz]; omega) | omega) _) | (with_reducible refine Below.drew ?_)))) (hb2.mono (by first | (simp only [World.size_setCell, World.size_alloc, dsz]; omega) | omega))
  have hsz := hbW.size
  have hszc := hb2.size
  try simp only [World.size_setCell, World.size_alloc, dsz] at hszc
  have BX := BX.later (B := w.heap.size + 1) (Below.trans (by repeat (first | (with_reducible exact Below.refl _ _) | (with_reducible refine Below.alloc ?_ (by first | (simp only [World.size_setCell, World.size_alloc, dsz]; omega) | omega) _) | (with_reducible refine Below.drew ?_))) (hb2.mono (by first | (simp only [World.size_setCell, World.size_alloc, dsz]; omega) | omega))) (by omega)
  obtain rfl := hnil rfl
  have HROW := Lib.hid hrow
  have HONE := Lib.hid hone
  have HFST := Lib.hid hfst
  clear hrow hone hnil hfst
  have bxl := BX.lt
  have f0 := BX.frozen 0
  have f1 := BX.frozen 1
  have f2 := BX.frozen 2
  have x0 := BX.cell 0 _ rfl
  have x1 := BX.cell 1 _ rfl
  have x2 := BX.cell 2 _ rfl
  have k0 := (hbW.cell (p := ⟨b, 1, none⟩) ltb).trans h0
  have k1 := (hbW.cell (p := ⟨b, 2, none⟩) ltb).trans h1
  have k2 := (hbW.cell (p := ⟨b, 3, none⟩) ltb).trans h2
  have lb2 : b < w2.heap.size := by omega
  have mX := World.new_ne w2 ⟨w.heap.size, 0, none⟩ x0
  clear hb2
  go_wp2_with fail
  have BY : Blk (w2.alloc (Obj.cells #[Value.string ⟨#[102, 105, 101, 108, 100]⟩, Value.string ⟨#[]⟩, (Value.slice none 0 0)] 24)) w2.heap.size 24 #[Value.string ⟨#[102, 105, 101, 108, 100]⟩, Value.string ⟨#[]⟩, (Value.slice none 0 0)] := Blk.new w2 _ _
  have nY : w.heap.size ≠ w2.heap.size := by omega
  have hsY := hsz
  obtain ⟨y0, y1, y2⟩ := And.intro (BY.cell 0 _ rfl) (And.intro (BY.cell 1 _ rfl) (BY.cell 2 _ rfl))
  obtain ⟨g1, g2⟩ := And.intro (BY.frozen 1) (BY.frozen 2)
  go_region_law (first
        | (refine step_call (by rfl) 48 _ _ (by rfl) #[vx] (by first | (simp [Act.eval]; done) | (simp [Act.eval, Act.put]; done) | rfl) (enters_of Tryz.func48 (by kernel_rfl) rfl) (hx1 _ (HS.out.later (by repeat (first | (with_reducible exact hbW) | (with_reducible exact Below.refl _ _) | (with_reducible refine Below.alloc ?_ (by first | (simp only [World.size_setCell, World.size_alloc, dsz]; omega) | omega) _) | (with_reducible refine Below.setCell ?_ (by first | (simp only [World.size_setCell, World.size_alloc, dsz]; omega) | omega) _) | (with_reducible refine Below.drew ?_))))) ?_
           rintro e w3 ⟨⟨a2, l2, c2, rfl, hk3⟩, hb2⟩
           refine ⟨_, rfl, ?_⟩
           have hbW := Below.trans (show Below w.heap.size w _ from (by repeat (first | (with_reducible exact hbW) | (with_reducible exact Below.refl _ _) | (with_reducible refine Below.alloc ?_ (by first | (simp only [World.size_setCell, World.size_alloc, dsz]; omega) | omega) _) | (with_reducible refine Below.setCell ?_ (by first | (simp only [World.size_setCell, World.size_alloc, dsz]; omega) | omega) _) | (with_reducible refine Below.drew ?_)))) (hb2.mono (by first | (simp only [World.size_setCell, World.size_alloc, dsz]; omega) | omega))
           have hsz := hbW.size
           have hb23 := Below.trans (show Below w2.heap.size w2 _ from (by repeat (first | (with_reducible exact Below.refl _ _) | (with_reducible refine Below.alloc ?_ (by first | (simp only [World.size_setCell, World.size_alloc, dsz]; omega) | omega) _) | (with_reducible refine Below.drew ?_)))) (hb2.mono (by first | (simp only [World.size_setCell, World.size_alloc, dsz]; omega) | omega))
           have hs23 := hb23.size
           have BX := BX.later (B := w.heap.size + 1) (Below.trans (by repeat (first | (with_reducible exact Below.refl _ _) | (with_reducible refine Below.alloc ?_ (by first | (simp only [World.size_setCell, World.size_alloc, dsz]; omega) | omega) _) | (with_reducible refine Below.drew ?_))) (hb2.mono (by first | (simp only [World.size_setCell, World.size_alloc, dsz]; omega) | omega))) (by omega)
           have BY := BY.later (B := w2.heap.size + 1) (Below.trans (by repeat (first | (with_reducible exact Below.refl _ _) | (with_reducible refine Below.alloc ?_ (by first | (simp only [World.size_setCell, World.size_alloc, dsz]; omega) | omega) _) | (with_reducible refine Below.drew ?_))) (hb2.mono (by first | (simp only [World.size_setCell, World.size_alloc, dsz]; omega) | omega))) (by omega)
           have HROW := Lib.hid (owns_kept ((HROW.out.alloc _).drew) hb2)
           have HK3 := Lib.hid (show KidsAt (Bt (w2.heap.size + 1) w3.heap.size) w3 _ _ from (by simpa [dsz] using hk3))
           have HB23 := Lib.hid hb23
           have bxl := BX.lt
           have f0 := BX.frozen 0
           have f1 := BX.frozen 1
           have f2 := BX.frozen 2
           have x0 := BX.cell 0 _ rfl
           have x1 := BX.cell 1 _ rfl
           have x2 := BX.cell 2 _ rfl
           have byl := BY.lt
           have g1 := BY.frozen 1
           have g2 := BY.frozen 2
           have y0 := BY.cell 0 _ rfl
           have y1 := BY.cell 1 _ rfl
           have y2 := BY.cell 2 _ rfl
           have k0 := (hbW.cell (p := ⟨b, 1, none⟩) ltb).trans h0
           have k1 := (hbW.cell (p := ⟨b, 2, none⟩) ltb).trans h1
           have k2 := (hbW.cell (p := ⟨b, 3, none⟩) ltb).trans h2
           have lb3 : b < w3.heap.size := by omega
           clear hb2 hk3 hb23)
        | (refine step_call (by rfl) 46 _ _ (by rfl) #[.slice (some ⟨w3.heap.size, 0, none⟩) 1 1] (by first | (simp [Act.eval]; done) | (simp [Act.eval, Act.put]; done) | rfl) (enters_of Tryz.func46 (by kernel_rfl) rfl) (kids_id _ _) ?_
           rintro e w4 ⟨rfl, rfl⟩
           refine ⟨_, rfl, ?_⟩)
        | (refine step_append_zero (by rfl) (.tmp 15) (.tmp 17) (by rfl) ⟨w3.heap.size, 0, none⟩ 1 1 (by decide) (by rfl) (by rfl) ?_
           have hb5 := (Below.refl w3.heap.size w3).alloc (Nat.le_refl _) (Obj.cells #[Value.string x.kind, Value.string x.text, Value.slice a2 l2 c2] 24)
           have hrw : KidsAt (Nt (w.heap.size + 1) w2.heap.size (w3.alloc (Obj.cells #[Value.string x.kind, Value.string x.text, Value.slice a2 l2 c2] 24)).heap.size) (w3.alloc (Obj.cells #[Value.string x.kind, Value.string x.text, Value.slice a2 l2 c2] 24)) (.slice (some ⟨w3.heap.size, 0, none⟩) 1 1) [x] :=
             kids_row (l := [(x, Value.slice a2 l2 c2)]) (own_one w3 _ _ _) (fun g hg => by simp [Value.ownBlock] at hg; subst hg; exact ⟨⟨by omega, by simp⟩, by omega⟩) (fun p hp => by simp at hp; subst hp; exact HK3.out.nt hb5 (by omega) (Nat.le_refl _) (by simp) (.inl (by omega)))
           have hsz5 : w3.heap.size < (w3.alloc (Obj.cells #[Value.string x.kind, Value.string x.text, Value.slice a2 l2 c2] 24)).heap.size := by simp
           generalize w3.alloc (Obj.cells #[Value.string x.kind, Value.string x.text, Value.slice a2 l2 c2] 24) = w5 at hb5 hrw hsz5 ⊢
           have HRW := Lib.hid hrw
           have hbW := hbW.trans (hb5.mono hsz)
           have hsz := hbW.size
           have BX := BX.later hb5 (by omega)
           have BY := BY.later hb5 (by omega)
           have bxl := BX.lt
           have f0 := BX.frozen 0
           have f1 := BX.frozen 1
           have f2 := BX.frozen 2
           have x0 := BX.cell 0 _ rfl
           have x1 := BX.cell 1 _ rfl
           have x2 := BX.cell 2 _ rfl
           have byl := BY.lt
           have g1 := BY.frozen 1
           have g2 := BY.frozen 2
           have y0 := BY.cell 0 _ rfl
           have y1 := BY.cell 1 _ rfl
           have y2 := BY.cell 2 _ rfl
           have k0 := (hbW.cell (p := ⟨b, 1, none⟩) ltb).trans h0
           have k1 := (hbW.cell (p := ⟨b, 2, none⟩) ltb).trans h1
           have k2 := (hbW.cell (p := ⟨b, 3, none⟩) ltb).trans h2
           clear hb5 hrw))
  all_goals go_wp2_with fail
  all_goals refine bodyPost_ret (ret_node rfl _ rfl (by first | (with_reducible exact Blk.node3 (BX.other _ _ _ nY)) | (with_reducible exact Blk.node3 ((BX.other _ _ _ nY).other _ _ _ nY)) | (with_reducible exact (Blk.node3 (BX.other _ _ _ nY)).later ((Below.refl _ _).alloc (Nat.le_refl _) _) (by first | (simp only [World.size_setCell, World.size_alloc, dsz]; omega) | omega)) | (with_reducible exact (Blk.node3 ((BX.other _ _ _ nY).other _ _ _ nY)).later ((Below.refl _ _).alloc (Nat.le_refl _) _) (by first | (simp only [World.size_setCell, World.size_alloc, dsz]; omega) | omega)))) rfl ⟨Back.of ?_, ?_⟩
  all_goals first | exact KidsAt.toBt (lo := w.heap.size + 1) (Y := w2.heap.size) (hi := w5.heap.size) (by repeat (first | (with_reducible exact HRW.out) | (with_reducible refine KidsAt.ntY ?_) | (with_reducible refine KidsAt.ntX ?_ (by omega)))) (by omega) (by first | (simp; done) | omega) | exact (by repeat (first | (with_reducible exact hbW) | (with_reducible exact Below.refl _ _) | (with_reducible refine Below.alloc ?_ (by first | (simp only [World.size_setCell, World.size_alloc, dsz]; omega) | omega) _) | (with_reducible refine Below.setCell ?_ (by first | (simp only [World.size_setCell, World.size_alloc, dsz]; omega) | omega) _) | (with_reducible refine Below.drew ?_)))

set_option maxHeartbeats 4000000 in
set_option maxRecDepth 100000 in
theorem fb_01 {C : Nat → Nat → Value → Prop} (b s : Nat) (vl vx : Value) (x : N) (tt : ByteArray) (hx0 : LsB C 61 ⟨#[102, 105, 101, 108, 100]⟩ vl 60 []) (hx1 : ExB C vx x) (w : World) (hS : Sees C w) (c0 : C b 1 (vl)) (c1 : C b 2 (vx)) (c2 : C b 3 (Pt s)) (c3 : C s 3 (Value.string tt)) :
    Calls Tryz.prog 65 #[Pt b] w fun e w' => Back w.heap.size (.mk ⟨#[102, 105, 101, 108, 100]⟩ tt (x :: [])) e w' ∧ Below w.heap.size w w' := by
  have h0 := hS _ _ _ c0
  have ltb := hS.lt c0
  have n0 := World.new_ne w ⟨b, 1, none⟩ h0
  have h1 := hS _ _ _ c1
  have n1 := World.new_ne w ⟨b, 2, none⟩ h1
  have h2 := hS _ _ _ c2
  have n2 := World.new_ne w ⟨b, 3, none⟩ h2
  have h3 := hS _ _ _ c3
  have lts := hS.lt c3
  have n3 := World.new_ne w ⟨s, 3, none⟩ h3
  have HS := Lib.hid hS
  obtain ⟨i0, hi, hz0, hz1, hz2⟩ := info_parts info24
  have HI := Lib.hid (And.intro hi (And.intro hz0 (And.intro hz1 hz2)))
  have BX : Blk (w.alloc (Obj.cells #[Value.string ⟨#[]⟩, Value.string ⟨#[]⟩, Value.slice none 0 0] 24)) w.heap.size 24 #[Value.string ⟨#[]⟩, Value.string ⟨#[]⟩, Value.slice none 0 0] := Blk.new w _ _
  clear hS hi hz0 hz1 hz2 c0 c1 c2 c3
  go_enter Tryz.func65, Tryz.ntmps65
  go_wp2_with fail
  refine (hx0 _ (HS.out.later (by repeat (first | (with_reducible exact hbW) | (with_reducible exact Below.refl _ _) | (with_reducible refine Below.alloc ?_ (by first | (simp only [World.size_setCell, World.size_alloc, dsz]; omega) | omega) _) | (with_reducible refine Below.setCell ?_ (by first | (simp only [World.size_setCell, World.size_alloc, dsz]; omega) | omega) _) | (with_reducible refine Below.drew ?_))))).mono ?_
  rintro e w2 ⟨⟨u, l, rfl, hfst, hrow, hone, hnil⟩, hb2⟩
  have hbW := Below.trans (show Below w.heap.size w _ from (by repeat (first | (with_reducible exact hbW) | (with_reducible exact Below.refl _ _) | (with_reducible refine Below.alloc ?_ (by first | (simp only [World.size_setCell, World.size_alloc, dsz]; omega) | omega) _) | (with_reducible refine Below.setCell ?_ (by first | (simp only [World.size_setCell, World.size_alloc, dsz]; omega) | omega) _) | (with_reducible refine Below.drew ?_)))) (hb2.mono (by first | (simp only [World.size_setCell, World.size_alloc, dsz]; omega) | omega))
  have hsz := hbW.size
  have hszc := hb2.size
  try simp only [World.size_setCell, World.size_alloc, dsz] at hszc
  have BX := BX.later (B := w.heap.size + 1) (Below.trans (by repeat (first | (with_reducible exact Below.refl _ _) | (with_reducible refine Below.alloc ?_ (by first | (simp only [World.size_setCell, World.size_alloc, dsz]; omega) | omega) _) | (with_reducible refine Below.drew ?_))) (hb2.mono (by first | (simp only [World.size_setCell, World.size_alloc, dsz]; omega) | omega))) (by omega)
  obtain rfl := hnil rfl
  have HROW := Lib.hid hrow
  have HONE := Lib.hid hone
  have HFST := Lib.hid hfst
  clear hrow hone hnil hfst
  have bxl := BX.lt
  have f0 := BX.frozen 0
  have f1 := BX.frozen 1
  have f2 := BX.frozen 2
  have x0 := BX.cell 0 _ rfl
  have x1 := BX.cell 1 _ rfl
  have x2 := BX.cell 2 _ rfl
  have k0 := (hbW.cell (p := ⟨b, 1, none⟩) ltb).trans h0
  have k1 := (hbW.cell (p := ⟨b, 2, none⟩) ltb).trans h1
  have k2 := (hbW.cell (p := ⟨b, 3, none⟩) ltb).trans h2
  have k3 := (hbW.cell (p := ⟨s, 3, none⟩) lts).trans h3
  have lb2 : b < w2.heap.size := by omega
  have ls2 : s < w2.heap.size := by omega
  have mX := World.new_ne w2 ⟨w.heap.size, 0, none⟩ x0
  clear hb2
  go_wp2_with fail
  have BY : Blk (w2.alloc (Obj.cells #[Value.string ⟨#[102, 105, 101, 108, 100]⟩, Value.string ⟨#[]⟩, (Value.slice none 0 0)] 24)) w2.heap.size 24 #[Value.string ⟨#[102, 105, 101, 108, 100]⟩, Value.string ⟨#[]⟩, (Value.slice none 0 0)] := Blk.new w2 _ _
  have nY : w.heap.size ≠ w2.heap.size := by omega
  have hsY := hsz
  obtain ⟨y0, y1, y2⟩ := And.intro (BY.cell 0 _ rfl) (And.intro (BY.cell 1 _ rfl) (BY.cell 2 _ rfl))
  obtain ⟨g1, g2⟩ := And.intro (BY.frozen 1) (BY.frozen 2)
  go_region_law (first
        | (refine step_call (by rfl) 48 _ _ (by rfl) #[vx] (by first | (simp [Act.eval]; done) | (simp [Act.eval, Act.put]; done) | rfl) (enters_of Tryz.func48 (by kernel_rfl) rfl) (hx1 _ (HS.out.later (by repeat (first | (with_reducible exact hbW) | (with_reducible exact Below.refl _ _) | (with_reducible refine Below.alloc ?_ (by first | (simp only [World.size_setCell, World.size_alloc, dsz]; omega) | omega) _) | (with_reducible refine Below.setCell ?_ (by first | (simp only [World.size_setCell, World.size_alloc, dsz]; omega) | omega) _) | (with_reducible refine Below.drew ?_))))) ?_
           rintro e w3 ⟨⟨a2, l2, c2, rfl, hk3⟩, hb2⟩
           refine ⟨_, rfl, ?_⟩
           have hbW := Below.trans (show Below w.heap.size w _ from (by repeat (first | (with_reducible exact hbW) | (with_reducible exact Below.refl _ _) | (with_reducible refine Below.alloc ?_ (by first | (simp only [World.size_setCell, World.size_alloc, dsz]; omega) | omega) _) | (with_reducible refine Below.setCell ?_ (by first | (simp only [World.size_setCell, World.size_alloc, dsz]; omega) | omega) _) | (with_reducible refine Below.drew ?_)))) (hb2.mono (by first | (simp only [World.size_setCell, World.size_alloc, dsz]; omega) | omega))
           have hsz := hbW.size
           have hb23 := Below.trans (show Below w2.heap.size w2 _ from (by repeat (first | (with_reducible exact Below.refl _ _) | (with_reducible refine Below.alloc ?_ (by first | (simp only [World.size_setCell, World.size_alloc, dsz]; omega) | omega) _) | (with_reducible refine Below.drew ?_)))) (hb2.mono (by first | (simp only [World.size_setCell, World.size_alloc, dsz]; omega) | omega))
           have hs23 := hb23.size
           have BX := BX.later (B := w.heap.size + 1) (Below.trans (by repeat (first | (with_reducible exact Below.refl _ _) | (with_reducible refine Below.alloc ?_ (by first | (simp only [World.size_setCell, World.size_alloc, dsz]; omega) | omega) _) | (with_reducible refine Below.drew ?_))) (hb2.mono (by first | (simp only [World.size_setCell, World.size_alloc, dsz]; omega) | omega))) (by omega)
           have BY := BY.later (B := w2.heap.size + 1) (Below.trans (by repeat (first | (with_reducible exact Below.refl _ _) | (with_reducible refine Below.alloc ?_ (by first | (simp only [World.size_setCell, World.size_alloc, dsz]; omega) | omega) _) | (with_reducible refine Below.drew ?_))) (hb2.mono (by first | (simp only [World.size_setCell, World.size_alloc, dsz]; omega) | omega))) (by omega)
           have HROW := Lib.hid (owns_kept ((HROW.out.alloc _).drew) hb2)
           have HK3 := Lib.hid (show KidsAt (Bt (w2.heap.size + 1) w3.heap.size) w3 _ _ from (by simpa [dsz] using hk3))
           have HB23 := Lib.hid hb23
           have bxl := BX.lt
           have f0 := BX.frozen 0
           have f1 := BX.frozen 1
           have f2 := BX.frozen 2
           have x0 := BX.cell 0 _ rfl
           have x1 := BX.cell 1 _ rfl
           have x2 := BX.cell 2 _ rfl
           have byl := BY.lt
           have g1 := BY.frozen 1
           have g2 := BY.frozen 2
           have y0 := BY.cell 0 _ rfl
           have y1 := BY.cell 1 _ rfl
           have y2 := BY.cell 2 _ rfl
           have k0 := (hbW.cell (p := ⟨b, 1, none⟩) ltb).trans h0
           have k1 := (hbW.cell (p := ⟨b, 2, none⟩) ltb).trans h1
           have k2 := (hbW.cell (p := ⟨b, 3, none⟩) ltb).trans h2
           have k3 := (hbW.cell (p := ⟨s, 3, none⟩) lts).trans h3
           have lb3 : b < w3.heap.size := by omega
           have ls3 : s < w3.heap.size := by omega
           clear hb2 hk3 hb23)
        | (refine step_call (by rfl) 46 _ _ (by rfl) #[.slice (some ⟨w3.heap.size, 0, none⟩) 1 1] (by first | (simp [Act.eval]; done) | (simp [Act.eval, Act.put]; done) | rfl) (enters_of Tryz.func46 (by kernel_rfl) rfl) (kids_id _ _) ?_
           rintro e w4 ⟨rfl, rfl⟩
           refine ⟨_, rfl, ?_⟩)
        | (refine step_append_zero (by rfl) (.tmp 15) (.tmp 17) (by rfl) ⟨w3.heap.size, 0, none⟩ 1 1 (by decide) (by rfl) (by rfl) ?_
           have hb5 := (Below.refl w3.heap.size w3).alloc (Nat.le_refl _) (Obj.cells #[Value.string x.kind, Value.string x.text, Value.slice a2 l2 c2] 24)
           have hrw : KidsAt (Nt (w.heap.size + 1) w2.heap.size (w3.alloc (Obj.cells #[Value.string x.kind, Value.string x.text, Value.slice a2 l2 c2] 24)).heap.size) (w3.alloc (Obj.cells #[Value.string x.kind, Value.string x.text, Value.slice a2 l2 c2] 24)) (.slice (some ⟨w3.heap.size, 0, none⟩) 1 1) [x] :=
             kids_row (l := [(x, Value.slice a2 l2 c2)]) (own_one w3 _ _ _) (fun g hg => by simp [Value.ownBlock] at hg; subst hg; exact ⟨⟨by omega, by simp⟩, by omega⟩) (fun p hp => by simp at hp; subst hp; exact HK3.out.nt hb5 (by omega) (Nat.le_refl _) (by simp) (.inl (by omega)))
           have hsz5 : w3.heap.size < (w3.alloc (Obj.cells #[Value.string x.kind, Value.string x.text, Value.slice a2 l2 c2] 24)).heap.size := by simp
           generalize w3.alloc (Obj.cells #[Value.string x.kind, Value.string x.text, Value.slice a2 l2 c2] 24) = w5 at hb5 hrw hsz5 ⊢
           have HRW := Lib.hid hrw
           have hbW := hbW.trans (hb5.mono hsz)
           have hsz := hbW.size
           have BX := BX.later hb5 (by omega)
           have BY := BY.later hb5 (by omega)
           have bxl := BX.lt
           have f0 := BX.frozen 0
           have f1 := BX.frozen 1
           have f2 := BX.frozen 2
           have x0 := BX.cell 0 _ rfl
           have x1 := BX.cell 1 _ rfl
           have x2 := BX.cell 2 _ rfl
           have byl := BY.lt
           have g1 := BY.frozen 1
           have g2 := BY.frozen 2
           have y0 := BY.cell 0 _ rfl
           have y1 := BY.cell 1 _ rfl
           have y2 := BY.cell 2 _ rfl
           have k0 := (hbW.cell (p := ⟨b, 1, none⟩) ltb).trans h0
           have k1 := (hbW.cell (p := ⟨b, 2, none⟩) ltb).trans h1
           have k2 := (hbW.cell (p := ⟨b, 3, none⟩) ltb).trans h2
           have k3 := (hbW.cell (p := ⟨s, 3, none⟩) lts).trans h3
           clear hb5 hrw))
  all_goals go_wp2_with fail
  all_goals refine bodyPost_ret (ret_node rfl _ rfl (by first | (with_reducible exact Blk.node3 (BX.other _ _ _ nY)) | (with_reducible exact Blk.node3 ((BX.other _ _ _ nY).other _ _ _ nY)) | (with_reducible exact (Blk.node3 (BX.other _ _ _ nY)).later ((Below.refl _ _).alloc (Nat.le_refl _) _) (by first | (simp only [World.size_setCell, World.size_alloc, dsz]; omega) | omega)) | (with_reducible exact (Blk.node3 ((BX.other _ _ _ nY).other _ _ _ nY)).later ((Below.refl _ _).alloc (Nat.le_refl _) _) (by first | (simp only [World.size_setCell, World.size_alloc, dsz]; omega) | omega)))) rfl ⟨Back.of ?_, ?_⟩
  all_goals first | exact KidsAt.toBt (lo := w.heap.size + 1) (Y := w2.heap.size) (hi := w5.heap.size) (by repeat (first | (with_reducible exact HRW.out) | (with_reducible refine KidsAt.ntY ?_) | (with_reducible refine KidsAt.ntX ?_ (by omega)))) (by omega) (by first | (simp; done) | omega) | exact (by repeat (first | (with_reducible exact hbW) | (with_reducible exact Below.refl _ _) | (with_reducible refine Below.alloc ?_ (by first | (simp only [World.size_setCell, World.size_alloc, dsz]; omega) | omega) _) | (with_reducible refine Below.setCell ?_ (by first | (simp only [World.size_setCell, World.size_alloc, dsz]; omega) | omega) _) | (with_reducible refine Below.drew ?_)))

set_option maxHeartbeats 4000000 in
set_option maxRecDepth 100000 in
theorem fb_10 {C : Nat → Nat → Value → Prop} (b n  : Nat) (vl vx : Value) (x : N) (r : List N) (hn : n ≤ 1000000) (hrn : r.length = n) (hn0 : 0 < n) (hx0 : LsB C 61 ⟨#[102, 105, 101, 108, 100]⟩ vl 60 r) (hx1 : ExB C vx x) (w : World) (hS : Sees C w) (c0 : C b 1 (vl)) (c1 : C b 2 (vx)) (c2 : C b 3 (Value.pointer none)) :
    Calls Tryz.prog 65 #[Pt b] w fun e w' => Back w.heap.size (.mk ⟨#[102, 105, 101, 108, 100]⟩ ⟨#[]⟩ (x :: r)) e w' ∧ Below w.heap.size w w' := by
  have h0 := hS _ _ _ c0
  have ltb := hS.lt c0
  have n0 := World.new_ne w ⟨b, 1, none⟩ h0
  have h1 := hS _ _ _ c1
  have n1 := World.new_ne w ⟨b, 2, none⟩ h1
  have h2 := hS _ _ _ c2
  have n2 := World.new_ne w ⟨b, 3, none⟩ h2
  have HS := Lib.hid hS
  have HN0 := Lib.hid hn0
  have HRN := Lib.hid hrn
  clear hrn hn0
  obtain ⟨i0, hi, hz0, hz1, hz2⟩ := info_parts info24
  have HI := Lib.hid (And.intro hi (And.intro hz0 (And.intro hz1 hz2)))
  have BX : Blk (w.alloc (Obj.cells #[Value.string ⟨#[]⟩, Value.string ⟨#[]⟩, Value.slice none 0 0] 24)) w.heap.size 24 #[Value.string ⟨#[]⟩, Value.string ⟨#[]⟩, Value.slice none 0 0] := Blk.new w _ _
  clear hS hi hz0 hz1 hz2 c0 c1 c2
  go_enter Tryz.func65, Tryz.ntmps65
  go_wp2_with fail
  refine (hx0 _ (HS.out.later (by repeat (first | (with_reducible exact hbW) | (with_reducible exact Below.refl _ _) | (with_reducible refine Below.alloc ?_ (by first | (simp only [World.size_setCell, World.size_alloc, dsz]; omega) | omega) _) | (with_reducible refine Below.setCell ?_ (by first | (simp only [World.size_setCell, World.size_alloc, dsz]; omega) | omega) _) | (with_reducible refine Below.drew ?_))))).mono ?_
  rintro e w2 ⟨⟨u, l, rfl, hfst, hrow, hone, hnil⟩, hb2⟩
  have hbW := Below.trans (show Below w.heap.size w _ from (by repeat (first | (with_reducible exact hbW) | (with_reducible exact Below.refl _ _) | (with_reducible refine Below.alloc ?_ (by first | (simp only [World.size_setCell, World.size_alloc, dsz]; omega) | omega) _) | (with_reducible refine Below.setCell ?_ (by first | (simp only [World.size_setCell, World.size_alloc, dsz]; omega) | omega) _) | (with_reducible refine Below.drew ?_)))) (hb2.mono (by first | (simp only [World.size_setCell, World.size_alloc, dsz]; omega) | omega))
  have hsz := hbW.size
  have hszc := hb2.size
  try simp only [World.size_setCell, World.size_alloc, dsz] at hszc
  have BX := BX.later (B := w.heap.size + 1) (Below.trans (by repeat (first | (with_reducible exact Below.refl _ _) | (with_reducible refine Below.alloc ?_ (by first | (simp only [World.size_setCell, World.size_alloc, dsz]; omega) | omega) _) | (with_reducible refine Below.drew ?_))) (hb2.mono (by first | (simp only [World.size_setCell, World.size_alloc, dsz]; omega) | omega))) (by omega)
  rw [HRN.out] at hrow
  obtain ⟨g, cap, rfl, hgB⟩ : ∃ g cap, u = .slice (some ⟨g, 0, none⟩) n cap ∧ w.heap.size ≤ g := by
    rcases hrow.2 with ⟨_, h⟩ | ⟨g, cap, _, h1, h2, _⟩
    · have := HN0.out; omega
    · exact ⟨g, cap, h1, by simp at h2; omega⟩
  have HROW := Lib.hid hrow
  have HONE := Lib.hid hone
  have HFST := Lib.hid hfst
  clear hrow hone hnil hfst
  have bxl := BX.lt
  have f0 := BX.frozen 0
  have f1 := BX.frozen 1
  have f2 := BX.frozen 2
  have x0 := BX.cell 0 _ rfl
  have x1 := BX.cell 1 _ rfl
  have x2 := BX.cell 2 _ rfl
  have k0 := (hbW.cell (p := ⟨b, 1, none⟩) ltb).trans h0
  have k1 := (hbW.cell (p := ⟨b, 2, none⟩) ltb).trans h1
  have k2 := (hbW.cell (p := ⟨b, 3, none⟩) ltb).trans h2
  have lb2 : b < w2.heap.size := by omega
  have mX := World.new_ne w2 ⟨w.heap.size, 0, none⟩ x0
  clear hb2
  go_wp2_with fail
  have BY : Blk (w2.alloc (Obj.cells #[Value.string ⟨#[102, 105, 101, 108, 100]⟩, Value.string ⟨#[]⟩, (Value.slice (some ⟨g, 0, none⟩) n cap)] 24)) w2.heap.size 24 #[Value.string ⟨#[102, 105, 101, 108, 100]⟩, Value.string ⟨#[]⟩, (Value.slice (some ⟨g, 0, none⟩) n cap)] := Blk.new w2 _ _
  have nY : w.heap.size ≠ w2.heap.size := by omega
  have hsY := hsz
  obtain ⟨y0, y1, y2⟩ := And.intro (BY.cell 0 _ rfl) (And.intro (BY.cell 1 _ rfl) (BY.cell 2 _ rfl))
  obtain ⟨g1, g2⟩ := And.intro (BY.frozen 1) (BY.frozen 2)
  go_region_law (first
        | (refine step_call (by rfl) 48 _ _ (by rfl) #[vx] (by first | (simp [Act.eval]; done) | (simp [Act.eval, Act.put]; done) | rfl) (enters_of Tryz.func48 (by kernel_rfl) rfl) (hx1 _ (HS.out.later (by repeat (first | (with_reducible exact hbW) | (with_reducible exact Below.refl _ _) | (with_reducible refine Below.alloc ?_ (by first | (simp only [World.size_setCell, World.size_alloc, dsz]; omega) | omega) _) | (with_reducible refine Below.setCell ?_ (by first | (simp only [World.size_setCell, World.size_alloc, dsz]; omega) | omega) _) | (with_reducible refine Below.drew ?_))))) ?_
           rintro e w3 ⟨⟨a2, l2, c2, rfl, hk3⟩, hb2⟩
           refine ⟨_, rfl, ?_⟩
           have hbW := Below.trans (show Below w.heap.size w _ from (by repeat (first | (with_reducible exact hbW) | (with_reducible exact Below.refl _ _) | (with_reducible refine Below.alloc ?_ (by first | (simp only [World.size_setCell, World.size_alloc, dsz]; omega) | omega) _) | (with_reducible refine Below.setCell ?_ (by first | (simp only [World.size_setCell, World.size_alloc, dsz]; omega) | omega) _) | (with_reducible refine Below.drew ?_)))) (hb2.mono (by first | (simp only [World.size_setCell, World.size_alloc, dsz]; omega) | omega))
           have hsz := hbW.size
           have hb23 := Below.trans (show Below w2.heap.size w2 _ from (by repeat (first | (with_reducible exact Below.refl _ _) | (with_reducible refine Below.alloc ?_ (by first | (simp only [World.size_setCell, World.size_alloc, dsz]; omega) | omega) _) | (with_reducible refine Below.drew ?_)))) (hb2.mono (by first | (simp only [World.size_setCell, World.size_alloc, dsz]; omega) | omega))
           have hs23 := hb23.size
           have BX := BX.later (B := w.heap.size + 1) (Below.trans (by repeat (first | (with_reducible exact Below.refl _ _) | (with_reducible refine Below.alloc ?_ (by first | (simp only [World.size_setCell, World.size_alloc, dsz]; omega) | omega) _) | (with_reducible refine Below.drew ?_))) (hb2.mono (by first | (simp only [World.size_setCell, World.size_alloc, dsz]; omega) | omega))) (by omega)
           have BY := BY.later (B := w2.heap.size + 1) (Below.trans (by repeat (first | (with_reducible exact Below.refl _ _) | (with_reducible refine Below.alloc ?_ (by first | (simp only [World.size_setCell, World.size_alloc, dsz]; omega) | omega) _) | (with_reducible refine Below.drew ?_))) (hb2.mono (by first | (simp only [World.size_setCell, World.size_alloc, dsz]; omega) | omega))) (by omega)
           have HROW := Lib.hid (owns_kept ((HROW.out.alloc _).drew) hb2)
           have HK3 := Lib.hid (show KidsAt (Bt (w2.heap.size + 1) w3.heap.size) w3 _ _ from (by simpa [dsz] using hk3))
           have HB23 := Lib.hid hb23
           have bxl := BX.lt
           have f0 := BX.frozen 0
           have f1 := BX.frozen 1
           have f2 := BX.frozen 2
           have x0 := BX.cell 0 _ rfl
           have x1 := BX.cell 1 _ rfl
           have x2 := BX.cell 2 _ rfl
           have byl := BY.lt
           have g1 := BY.frozen 1
           have g2 := BY.frozen 2
           have y0 := BY.cell 0 _ rfl
           have y1 := BY.cell 1 _ rfl
           have y2 := BY.cell 2 _ rfl
           have k0 := (hbW.cell (p := ⟨b, 1, none⟩) ltb).trans h0
           have k1 := (hbW.cell (p := ⟨b, 2, none⟩) ltb).trans h1
           have k2 := (hbW.cell (p := ⟨b, 3, none⟩) ltb).trans h2
           have lb3 : b < w3.heap.size := by omega
           clear hb2 hk3 hb23)
        | (refine step_call (by rfl) 46 _ _ (by rfl) #[.slice (some ⟨w3.heap.size, 0, none⟩) 1 1] (by first | (simp [Act.eval]; done) | (simp [Act.eval, Act.put]; done) | rfl) (enters_of Tryz.func46 (by kernel_rfl) rfl) (kids_id _ _) ?_
           rintro e w4 ⟨rfl, rfl⟩
           refine ⟨_, rfl, ?_⟩)
        | (refine step_append_lies _ (by rfl) (.tmp 15) (.tmp 17) 22 (by rfl) w3.heap.size 24 i0 (.agg #[.string ⟨#[]⟩, .string ⟨#[]⟩, .slice none 0 0]) 3 56 under22 HI.out.1 HI.out.2.1 HI.out.2.2.1 HI.out.2.2.2 (by rfl) (by decide) (.slice (some ⟨w3.heap.size, 0, none⟩) 1 1) 1 [.string x.kind, .string x.text, .slice a2 l2 c2] (by rfl) (own_one w3 (.string x.kind) (.string x.text) (.slice a2 l2 c2)) ⟨g, 0, none⟩ n cap (rowL l) (by rfl) (by have := HROW.out.1; omega) (owns_cells (HROW.out.alloc (Obj.cells #[Value.string x.kind, Value.string x.text, Value.slice a2 l2 c2] 24))) (rowL_one fun p hp => (HONE.out p hp).1) HN0.out (by unfold maxLen; omega) (by omega) (by simp) (w3.heap.size + 1) (by simp) ?_
           intro gg cap' w5 hown5 hgrow5 hat5 hlt5
           have hal5 := (Below.refl w3.heap.size w3).alloc (Nat.le_refl _) (Obj.cells #[Value.string x.kind, Value.string x.text, Value.slice a2 l2 c2] 24)
           have hb5 : Below w3.heap.size w3 w5 := hal5.grown hgrow5 (by simp) (fun k hk => by cases hk; exact Nat.le_refl _)
           have hgg : w3.heap.size ≤ gg ∧ gg < w5.heap.size := hown5.lt gg rfl
           have hrw : KidsAt (Nt (w.heap.size + 1) w2.heap.size w5.heap.size) w5 (.slice (some ⟨gg, 0, none⟩) (1 + n) cap') (x :: r) := by
             have h := kids_row (ok := Nt (w.heap.size + 1) w2.heap.size w5.heap.size) (l := (x, Value.slice a2 l2 c2) :: l) hown5 (fun g hg => by simp [Value.ownBlock] at hg; subst hg; exact ⟨⟨by omega, hgg.2⟩, by omega⟩) (fun p hp => by
               rcases List.mem_cons.1 hp with rfl | hp
               · exact HK3.out.nt hb5 (by omega) (Nat.le_refl _) hb5.size (.inl (by omega))
               · exact (show KidsAt (Bt (w.heap.size + 1) w2.heap.size) w2 p.2 p.1.kids from (by simpa [dsz] using (HONE.out p hp).2)).nt (HB23.out.trans (hb5.mono hs23)) (Nat.le_refl _) (Nat.le_refl _) (by have := hb5.size; omega) (.inr (Nat.le_refl _)))
             rw [List.map_cons, HFST.out] at h
             exact h
           have HRW := Lib.hid hrw
           have hbW := hbW.trans (hb5.mono hsz)
           have hsz := hbW.size
           have BX := BX.later hb5 (by omega)
           have BY := BY.later hb5 (by omega)
           have bxl := BX.lt
           have f0 := BX.frozen 0
           have f1 := BX.frozen 1
           have f2 := BX.frozen 2
           have x0 := BX.cell 0 _ rfl
           have x1 := BX.cell 1 _ rfl
           have x2 := BX.cell 2 _ rfl
           have byl := BY.lt
           have g1 := BY.frozen 1
           have g2 := BY.frozen 2
           have y0 := BY.cell 0 _ rfl
           have y1 := BY.cell 1 _ rfl
           have y2 := BY.cell 2 _ rfl
           have k0 := (hbW.cell (p := ⟨b, 1, none⟩) ltb).trans h0
           have k1 := (hbW.cell (p := ⟨b, 2, none⟩) ltb).trans h1
           have k2 := (hbW.cell (p := ⟨b, 3, none⟩) ltb).trans h2
           clear hown5 hgrow5 hat5 hal5 hb5 hrw))
  all_goals go_wp2_with fail
  all_goals refine bodyPost_ret (ret_node rfl _ rfl (by first | (with_reducible exact Blk.node3 (BX.other _ _ _ nY)) | (with_reducible exact Blk.node3 ((BX.other _ _ _ nY).other _ _ _ nY)) | (with_reducible exact (Blk.node3 (BX.other _ _ _ nY)).later ((Below.refl _ _).alloc (Nat.le_refl _) _) (by first | (simp only [World.size_setCell, World.size_alloc, dsz]; omega) | omega)) | (with_reducible exact (Blk.node3 ((BX.other _ _ _ nY).other _ _ _ nY)).later ((Below.refl _ _).alloc (Nat.le_refl _) _) (by first | (simp only [World.size_setCell, World.size_alloc, dsz]; omega) | omega)))) rfl ⟨Back.of ?_, ?_⟩
  all_goals first | exact KidsAt.toBt (lo := w.heap.size + 1) (Y := w2.heap.size) (hi := w5.heap.size) (by repeat (first | (with_reducible exact HRW.out) | (with_reducible refine KidsAt.ntY ?_) | (with_reducible refine KidsAt.ntX ?_ (by omega)))) (by omega) (by first | (simp; done) | omega) | exact (by repeat (first | (with_reducible exact hbW) | (with_reducible exact Below.refl _ _) | (with_reducible refine Below.alloc ?_ (by first | (simp only [World.size_setCell, World.size_alloc, dsz]; omega) | omega) _) | (with_reducible refine Below.setCell ?_ (by first | (simp only [World.size_setCell, World.size_alloc, dsz]; omega) | omega) _) | (with_reducible refine Below.drew ?_)))

set_option maxHeartbeats 4000000 in
set_option maxRecDepth 100000 in
theorem fb_11 {C : Nat → Nat → Value → Prop} (b n s : Nat) (vl vx : Value) (x : N) (r : List N) (tt : ByteArray) (hn : n ≤ 1000000) (hrn : r.length = n) (hn0 : 0 < n) (hx0 : LsB C 61 ⟨#[102, 105, 101, 108, 100]⟩ vl 60 r) (hx1 : ExB C vx x) (w : World) (hS : Sees C w) (c0 : C b 1 (vl)) (c1 : C b 2 (vx)) (c2 : C b 3 (Pt s)) (c3 : C s 3 (Value.string tt)) :
    Calls Tryz.prog 65 #[Pt b] w fun e w' => Back w.heap.size (.mk ⟨#[102, 105, 101, 108, 100]⟩ tt (x :: r)) e w' ∧ Below w.heap.size w w' := by
  have h0 := hS _ _ _ c0
  have ltb := hS.lt c0
  have n0 := World.new_ne w ⟨b, 1, none⟩ h0
  have h1 := hS _ _ _ c1
  have n1 := World.new_ne w ⟨b, 2, none⟩ h1
  have h2 := hS _ _ _ c2
  have n2 := World.new_ne w ⟨b, 3, none⟩ h2
  have h3 := hS _ _ _ c3
  have lts := hS.lt c3
  have n3 := World.new_ne w ⟨s, 3, none⟩ h3
  have HS := Lib.hid hS
  have HN0 := Lib.hid hn0
  have HRN := Lib.hid hrn
  clear hrn hn0
  obtain ⟨i0, hi, hz0, hz1, hz2⟩ := info_parts info24
  have HI := Lib.hid (And.intro hi (And.intro hz0 (And.intro hz1 hz2)))
  have BX : Blk (w.alloc (Obj.cells #[Value.string ⟨#[]⟩, Value.string ⟨#[]⟩, Value.slice none 0 0] 24)) w.heap.size 24 #[Value.string ⟨#[]⟩, Value.string ⟨#[]⟩, Value.slice none 0 0] := Blk.new w _ _
  clear hS hi hz0 hz1 hz2 c0 c1 c2 c3
  go_enter Tryz.func65, Tryz.ntmps65
  go_wp2_with fail
  refine (hx0 _ (HS.out.later (by repeat (first | (with_reducible exact hbW) | (with_reducible exact Below.refl _ _) | (with_reducible refine Below.alloc ?_ (by first | (simp only [World.size_setCell, World.size_alloc, dsz]; omega) | omega) _) | (with_reducible refine Below.setCell ?_ (by first | (simp only [World.size_setCell, World.size_alloc, dsz]; omega) | omega) _) | (with_reducible refine Below.drew ?_))))).mono ?_
  rintro e w2 ⟨⟨u, l, rfl, hfst, hrow, hone, hnil⟩, hb2⟩
  have hbW := Below.trans (show Below w.heap.size w _ from (by repeat (first | (with_reducible exact hbW) | (with_reducible exact Below.refl _ _) | (with_reducible refine Below.alloc ?_ (by first | (simp only [World.size_setCell, World.size_alloc, dsz]; omega) | omega) _) | (with_reducible refine Below.setCell ?_ (by first | (simp only [World.size_setCell, World.size_alloc, dsz]; omega) | omega) _) | (with_reducible refine Below.drew ?_)))) (hb2.mono (by first | (simp only [World.size_setCell, World.size_alloc, dsz]; omega) | omega))
  have hsz := hbW.size
  have hszc := hb2.size
  try simp only [World.size_setCell, World.size_alloc, dsz] at hszc
  have BX := BX.later (B := w.heap.size + 1) (Below.trans (by repeat (first | (with_reducible exact Below.refl _ _) | (with_reducible refine Below.alloc ?_ (by first | (simp only [World.size_setCell, World.size_alloc, dsz]; omega) | omega) _) | (with_reducible refine Below.drew ?_))) (hb2.mono (by first | (simp only [World.size_setCell, World.size_alloc, dsz]; omega) | omega))) (by omega)
  rw [HRN.out] at hrow
  obtain ⟨g, cap, rfl, hgB⟩ : ∃ g cap, u = .slice (some ⟨g, 0, none⟩) n cap ∧ w.heap.size ≤ g := by
    rcases hrow.2 with ⟨_, h⟩ | ⟨g, cap, _, h1, h2, _⟩
    · have := HN0.out; omega
    · exact ⟨g, cap, h1, by simp at h2; omega⟩
  have HROW := Lib.hid hrow
  have HONE := Lib.hid hone
  have HFST := Lib.hid hfst
  clear hrow hone hnil hfst
  have bxl := BX.lt
  have f0 := BX.frozen 0
  have f1 := BX.frozen 1
  have f2 := BX.frozen 2
  have x0 := BX.cell 0 _ rfl
  have x1 := BX.cell 1 _ rfl
  have x2 := BX.cell 2 _ rfl
  have k0 := (hbW.cell (p := ⟨b, 1, none⟩) ltb).trans h0
  have k1 := (hbW.cell (p := ⟨b, 2, none⟩) ltb).trans h1
  have k2 := (hbW.cell (p := ⟨b, 3, none⟩) ltb).trans h2
  have k3 := (hbW.cell (p := ⟨s, 3, none⟩) lts).trans h3
  have lb2 : b < w2.heap.size := by omega
  have ls2 : s < w2.heap.size := by omega
  have mX := World.new_ne w2 ⟨w.heap.size, 0, none⟩ x0
  clear hb2
  go_wp2_with fail
  have BY : Blk (w2.alloc (Obj.cells #[Value.string ⟨#[102, 105, 101, 108, 100]⟩, Value.string ⟨#[]⟩, (Value.slice (some ⟨g, 0, none⟩) n cap)] 24)) w2.heap.size 24 #[Value.string ⟨#[102, 105, 101, 108, 100]⟩, Value.string ⟨#[]⟩, (Value.slice (some ⟨g, 0, none⟩) n cap)] := Blk.new w2 _ _
  have nY : w.heap.size ≠ w2.heap.size := by omega
  have hsY := hsz
  obtain ⟨y0, y1, y2⟩ := And.intro (BY.cell 0 _ rfl) (And.intro (BY.cell 1 _ rfl) (BY.cell 2 _ rfl))
  obtain ⟨g1, g2⟩ := And.intro (BY.frozen 1) (BY.frozen 2)
  go_region_law (first
        | (refine step_call (by rfl) 48 _ _ (by rfl) #[vx] (by first | (simp [Act.eval]; done) | (simp [Act.eval, Act.put]; done) | rfl) (enters_of Tryz.func48 (by kernel_rfl) rfl) (hx1 _ (HS.out.later (by repeat (first | (with_reducible exact hbW) | (with_reducible exact Below.refl _ _) | (with_reducible refine Below.alloc ?_ (by first | (simp only [World.size_setCell, World.size_alloc, dsz]; omega) | omega) _) | (with_reducible refine Below.setCell ?_ (by first | (simp only [World.size_setCell, World.size_alloc, dsz]; omega) | omega) _) | (with_reducible refine Below.drew ?_))))) ?_
           rintro e w3 ⟨⟨a2, l2, c2, rfl, hk3⟩, hb2⟩
           refine ⟨_, rfl, ?_⟩
           have hbW := Below.trans (show Below w.heap.size w _ from (by repeat (first | (with_reducible exact hbW) | (with_reducible exact Below.refl _ _) | (with_reducible refine Below.alloc ?_ (by first | (simp only [World.size_setCell, World.size_alloc, dsz]; omega) | omega) _) | (with_reducible refine Below.setCell ?_ (by first | (simp only [World.size_setCell, World.size_alloc, dsz]; omega) | omega) _) | (with_reducible refine Below.drew ?_)))) (hb2.mono (by first | (simp only [World.size_setCell, World.size_alloc, dsz]; omega) | omega))
           have hsz := hbW.size
           have hb23 := Below.trans (show Below w2.heap.size w2 _ from (by repeat (first | (with_reducible exact Below.refl _ _) | (with_reducible refine Below.alloc ?_ (by first | (simp only [World.size_setCell, World.size_alloc, dsz]; omega) | omega) _) | (with_reducible refine Below.drew ?_)))) (hb2.mono (by first | (simp only [World.size_setCell, World.size_alloc, dsz]; omega) | omega))
           have hs23 := hb23.size
           have BX := BX.later (B := w.heap.size + 1) (Below.trans (by repeat (first | (with_reducible exact Below.refl _ _) | (with_reducible refine Below.alloc ?_ (by first | (simp only [World.size_setCell, World.size_alloc, dsz]; omega) | omega) _) | (with_reducible refine Below.drew ?_))) (hb2.mono (by first | (simp only [World.size_setCell, World.size_alloc, dsz]; omega) | omega))) (by omega)
           have BY := BY.later (B := w2.heap.size + 1) (Below.trans (by repeat (first | (with_reducible exact Below.refl _ _) | (with_reducible refine Below.alloc ?_ (by first | (simp only [World.size_setCell, World.size_alloc, dsz]; omega) | omega) _) | (with_reducible refine Below.drew ?_))) (hb2.mono (by first | (simp only [World.size_setCell, World.size_alloc, dsz]; omega) | omega))) (by omega)
           have HROW := Lib.hid (owns_kept ((HROW.out.alloc _).drew) hb2)
           have HK3 := Lib.hid (show KidsAt (Bt (w2.heap.size + 1) w3.heap.size) w3 _ _ from (by simpa [dsz] using hk3))
           have HB23 := Lib.hid hb23
           have bxl := BX.lt
           have f0 := BX.frozen 0
           have f1 := BX.frozen 1
           have f2 := BX.frozen 2
           have x0 := BX.cell 0 _ rfl
           have x1 := BX.cell 1 _ rfl
           have x2 := BX.cell 2 _ rfl
           have byl := BY.lt
           have g1 := BY.frozen 1
           have g2 := BY.frozen 2
           have y0 := BY.cell 0 _ rfl
           have y1 := BY.cell 1 _ rfl
           have y2 := BY.cell 2 _ rfl
           have k0 := (hbW.cell (p := ⟨b, 1, none⟩) ltb).trans h0
           have k1 := (hbW.cell (p := ⟨b, 2, none⟩) ltb).trans h1
           have k2 := (hbW.cell (p := ⟨b, 3, none⟩) ltb).trans h2
           have k3 := (hbW.cell (p := ⟨s, 3, none⟩) lts).trans h3
           have lb3 : b < w3.heap.size := by omega
           have ls3 : s < w3.heap.size := by omega
           clear hb2 hk3 hb23)
        | (refine step_call (by rfl) 46 _ _ (by rfl) #[.slice (some ⟨w3.heap.size, 0, none⟩) 1 1] (by first | (simp [Act.eval]; done) | (simp [Act.eval, Act.put]; done) | rfl) (enters_of Tryz.func46 (by kernel_rfl) rfl) (kids_id _ _) ?_
           rintro e w4 ⟨rfl, rfl⟩
           refine ⟨_, rfl, ?_⟩)
        | (refine step_append_lies _ (by rfl) (.tmp 15) (.tmp 17) 22 (by rfl) w3.heap.size 24 i0 (.agg #[.string ⟨#[]⟩, .string ⟨#[]⟩, .slice none 0 0]) 3 56 under22 HI.out.1 HI.out.2.1 HI.out.2.2.1 HI.out.2.2.2 (by rfl) (by decide) (.slice (some ⟨w3.heap.size, 0, none⟩) 1 1) 1 [.string x.kind, .string x.text, .slice a2 l2 c2] (by rfl) (own_one w3 (.string x.kind) (.string x.text) (.slice a2 l2 c2)) ⟨g, 0, none⟩ n cap (rowL l) (by rfl) (by have := HROW.out.1; omega) (owns_cells (HROW.out.alloc (Obj.cells #[Value.string x.kind, Value.string x.text, Value.slice a2 l2 c2] 24))) (rowL_one fun p hp => (HONE.out p hp).1) HN0.out (by unfold maxLen; omega) (by omega) (by simp) (w3.heap.size + 1) (by simp) ?_
           intro gg cap' w5 hown5 hgrow5 hat5 hlt5
           have hal5 := (Below.refl w3.heap.size w3).alloc (Nat.le_refl _) (Obj.cells #[Value.string x.kind, Value.string x.text, Value.slice a2 l2 c2] 24)
           have hb5 : Below w3.heap.size w3 w5 := hal5.grown hgrow5 (by simp) (fun k hk => by cases hk; exact Nat.le_refl _)
           have hgg : w3.heap.size ≤ gg ∧ gg < w5.heap.size := hown5.lt gg rfl
           have hrw : KidsAt (Nt (w.heap.size + 1) w2.heap.size w5.heap.size) w5 (.slice (some ⟨gg, 0, none⟩) (1 + n) cap') (x :: r) := by
             have h := kids_row (ok := Nt (w.heap.size + 1) w2.heap.size w5.heap.size) (l := (x, Value.slice a2 l2 c2) :: l) hown5 (fun g hg => by simp [Value.ownBlock] at hg; subst hg; exact ⟨⟨by omega, hgg.2⟩, by omega⟩) (fun p hp => by
               rcases List.mem_cons.1 hp with rfl | hp
               · exact HK3.out.nt hb5 (by omega) (Nat.le_refl _) hb5.size (.inl (by omega))
               · exact (show KidsAt (Bt (w.heap.size + 1) w2.heap.size) w2 p.2 p.1.kids from (by simpa [dsz] using (HONE.out p hp).2)).nt (HB23.out.trans (hb5.mono hs23)) (Nat.le_refl _) (Nat.le_refl _) (by have := hb5.size; omega) (.inr (Nat.le_refl _)))
             rw [List.map_cons, HFST.out] at h
             exact h
           have HRW := Lib.hid hrw
           have hbW := hbW.trans (hb5.mono hsz)
           have hsz := hbW.size
           have BX := BX.later hb5 (by omega)
           have BY := BY.later hb5 (by omega)
           have bxl := BX.lt
           have f0 := BX.frozen 0
           have f1 := BX.frozen 1
           have f2 := BX.frozen 2
           have x0 := BX.cell 0 _ rfl
           have x1 := BX.cell 1 _ rfl
           have x2 := BX.cell 2 _ rfl
           have byl := BY.lt
           have g1 := BY.frozen 1
           have g2 := BY.frozen 2
           have y0 := BY.cell 0 _ rfl
           have y1 := BY.cell 1 _ rfl
           have y2 := BY.cell 2 _ rfl
           have k0 := (hbW.cell (p := ⟨b, 1, none⟩) ltb).trans h0
           have k1 := (hbW.cell (p := ⟨b, 2, none⟩) ltb).trans h1
           have k2 := (hbW.cell (p := ⟨b, 3, none⟩) ltb).trans h2
           have k3 := (hbW.cell (p := ⟨s, 3, none⟩) lts).trans h3
           clear hown5 hgrow5 hat5 hal5 hb5 hrw))
  all_goals go_wp2_with fail
  all_goals refine bodyPost_ret (ret_node rfl _ rfl (by first | (with_reducible exact Blk.node3 (BX.other _ _ _ nY)) | (with_reducible exact Blk.node3 ((BX.other _ _ _ nY).other _ _ _ nY)) | (with_reducible exact (Blk.node3 (BX.other _ _ _ nY)).later ((Below.refl _ _).alloc (Nat.le_refl _) _) (by first | (simp only [World.size_setCell, World.size_alloc, dsz]; omega) | omega)) | (with_reducible exact (Blk.node3 ((BX.other _ _ _ nY).other _ _ _ nY)).later ((Below.refl _ _).alloc (Nat.le_refl _) _) (by first | (simp only [World.size_setCell, World.size_alloc, dsz]; omega) | omega)))) rfl ⟨Back.of ?_, ?_⟩
  all_goals first | exact KidsAt.toBt (lo := w.heap.size + 1) (Y := w2.heap.size) (hi := w5.heap.size) (by repeat (first | (with_reducible exact HRW.out) | (with_reducible refine KidsAt.ntY ?_) | (with_reducible refine KidsAt.ntX ?_ (by omega)))) (by omega) (by first | (simp; done) | omega) | exact (by repeat (first | (with_reducible exact hbW) | (with_reducible exact Below.refl _ _) | (with_reducible refine Below.alloc ?_ (by first | (simp only [World.size_setCell, World.size_alloc, dsz]; omega) | omega) _) | (with_reducible refine Below.setCell ?_ (by first | (simp only [World.size_setCell, World.size_alloc, dsz]; omega) | omega) _) | (with_reducible refine Below.drew ?_)))
end Go.Proofs.YtoijkbkcfbbmfaaGreatDoor

/- What is proved here: decl, turning a declaration into a node again: the node reads as the tree that the declaration was made of. Condition: the table of tokens lies as the program lays it. -/
namespace Go.Proofs.YtoijkbkcfbbmfaaGreatDoor
open Go.RowKit Go.Shelf
set_option linter.unusedVariables false
set_option linter.unusedSimpArgs false

theorem mk_eq {n : N} {k t : ByteArray} {ks : List N} (hk : n.kind.toList = k.toList) (ht : n.text.toList = t.toList) (h0 : n.kids = ks) : N.mk k t ks = n := by
  cases n with
  | mk a b c =>
    simp only [N.kind] at hk
    simp only [N.text] at ht
    simp only [N.kids] at h0
    rw [toList_inj hk, toList_inj ht, h0]
theorem text_nil {t : ByteArray} (h : t.toList.isEmpty = true) : t.toList = (⟨#[]⟩ : ByteArray).toList := by
  have : t.toList = [] := by simpa using h
  rw [this]; simp
theorem missing_eq {n : N} (h : missing n = true) : N.mk ⟨#[110, 111, 110, 101]⟩ ⟨#[]⟩ [] = n := by
  have h' := h
  simp only [missing, Bool.and_eq_true] at h
  exact mk_eq (by rw [missing_kind h']; simp) (text_nil h.1.2) (by simpa using h.2)
theorem enN : Enters Tryz.prog 60 := enters_of Tryz.func60 (by kernel_rfl) rfl
theorem enE : Enters Tryz.prog 48 := enters_of Tryz.func48 (by kernel_rfl) rfl
theorem enF : Enters Tryz.prog 65 := enters_of Tryz.func65 (by kernel_rfl) rfl
theorem enI : Enters Tryz.prog 42 := enters_of Tryz.func42 (by kernel_rfl) rfl
theorem nm_back {C : Nat → Nat → Value → Prop} {n : N} {s : Nat} (h : Rep C n (Nd 55 s)) : NmB C (Pt s) n := fun w hS => by
  obtain ⟨hk, h0, hc⟩ := h.ident_inv
  have := n_some s n.text w hS hc
  rwa [mk_eq (n := n) (by rw [isK_eq hk]; simp) rfl h0] at this
theorem nm_opt {C : Nat → Nat → Value → Prop} {n : N} {v p : Value} (h : Rep C n v) (ho : OPt 55 v p) : NmB C p n := by
  rcases ho with ⟨rfl, rfl⟩ | ⟨s, rfl, rfl⟩
  · rw [← missing_eq h.nil_inv]; exact fun w hS => n_none w hS
  · exact nm_back h
/-- What is known of the trees that are not greater than a number. -/
structure BOK (f : Nat) : Prop where
  ex : ∀ {C : Nat → Nat → Value → Prop} {n : N} {v : Value}, n.size ≤ f → Rep C n v → isE v = true → ExB C v n
  fs : ∀ {C : Nat → Nat → Value → Prop} {n : N} {b : Nat}, n.size ≤ f → Rep C n (Nd 52 b) → FsB C (Pt b) n
  fd : ∀ {C : Nat → Nat → Value → Prop} {n : N} {b : Nat}, n.size ≤ f → Rep C n (Nd 92 b) → BkOK 65 C (Pt b) n
theorem BOK.exo {f : Nat} (h : BOK f) {C : Nat → Nat → Value → Prop} {n : N} {v : Value} (hn : n.size ≤ f) (hR : Rep C n v) (hv : v = .nilIface ∨ isE v = true) : ExB C v n := by
  rcases hv with rfl | hv
  · rw [← missing_eq hR.nil_inv]; exact fun w hS => y_nil w hS
  · exact h.ex hn hR hv
theorem BOK.fso {f : Nat} (h : BOK f) {C : Nat → Nat → Value → Prop} {n : N} {v p : Value} (hn : n.size ≤ f) (hR : Rep C n v) (ho : OPt 52 v p) : FsB C p n := by
  rcases ho with ⟨rfl, rfl⟩ | ⟨b, rfl, rfl⟩
  · rw [← missing_eq hR.nil_inv]; exact fun w hS => f_none w hS
  · exact h.fs hn hR
theorem names_lb {C : Nat → Nat → Value → Prop} {ks : List N} {v : Value} {U : Nat → Nat} (k : ByteArray) (hl : LAt C v ks.length (fun i => Pt (U i))) (hn : ks.length ≤ 1000000) (hr : ∀ i m, ks[i]? = some m → Rep C m (Nd 55 (U i))) : LsB C 61 k v 60 ks :=
  lb_listIdent k v 60 ks _ hl hn enN fun i m hi => nm_back (hr i m hi)
theorem field_back {f : Nat} (h : BOK f) (hf : f ≤ 1000000) {C : Nat → Nat → Value → Prop} {n : N} {b : Nat} (hn : n.size ≤ f + 1) (hR : Rep C n (Nd 92 b)) : BkOK 65 C (Pt b) n := by
  intro w hS
  have hnl := N.len_lt n
  cases hR with
  | field _ _ x r vx U vl vt pt hk h0 cd cl hl hr ex cx rx ct ot rt cc =>
    have hx : x.size ≤ f := by have := kid_lt (n := n) (m := x) (by simp [h0]); omega
    have hrl : r.length < n.kids.length := by rw [h0]; simp
    have hex : ExB C vx x := h.exo hx rx (.inr ex)
    have hls := names_lb ⟨#[102, 105, 101, 108, 100]⟩ hl (by omega) hr
    have hkk : n.kind.toList = (⟨#[102, 105, 101, 108, 100]⟩ : ByteArray).toList := by rw [isK_eq hk]; simp
    rcases ot with ⟨rfl, rfl⟩ | ⟨q, rfl, rfl⟩
    · have ht : n.text.toList = (⟨#[]⟩ : ByteArray).toList := by
        have hm := rt.nil_inv
        unfold tagN at hm
        split at hm
        · exact text_nil ‹_›
        · simp [missing, litN, isK, N.kind] at hm
      rw [← mk_eq hkk ht h0]
      cases r with
      | nil => exact fb_00 b vl vx x hls hex w hS cl cx ct
      | cons y r => exact fb_10 b (r.length + 1) vl vx x (y :: r) (by simp at hrl; omega) rfl (by omega) hls hex w hS cl cx ct
    · have ht : Rep C (litN n.text) (Nd 97 q) := by
        unfold tagN at rt
        split at rt
        · cases rt with
          | literal _ _ hk' => simp [isK, noneN, N.kind] at hk'
        · exact rt
      have hc := ht.lit_inv.2.2
      rw [← mk_eq hkk rfl h0]
      cases r with
      | nil => exact fb_01 b q vl vx x _ hls hex w hS cl cx ct hc
      | cons y r => exact fb_11 b (r.length + 1) q vl vx x (y :: r) _ (by simp at hrl; omega) rfl (by omega) hls hex w hS cl cx ct hc
theorem fields_back {f : Nat} (h : BOK f) (hf : f ≤ 1000000) {C : Nat → Nat → Value → Prop} {n : N} {b : Nat} (hn : n.size ≤ f + 1) (hR : Rep C n (Nd 52 b)) : FsB C (Pt b) n := by
  intro w hS
  have hnl := N.len_lt n
  cases hR with
  | fields _ _ U vl hk ht cl hl hr =>
    have hls := lb_listField ⟨#[102, 105, 101, 108, 100, 115]⟩ vl 65 n.kids _ hl (by omega) enF fun i m hi => h.fd (by have := N.size_kid hi; omega) (hr i m hi)
    have := f_some b vl n.kids hls.ok w hS cl
    rwa [mk_eq (n := n) (by rw [isK_eq hk]; simp) (text_nil ht) rfl] at this
theorem two {F : Nat} {C : Nat → Nat → Value → Prop} {a b : Value} {x y : N} (ha : BkOK F C a x) (hb : BkOK F C b y) : ∀ v n, (v = a ∧ n = x) ∨ (v = b ∧ n = y) → BkOK F C v n := by
  rintro v n (⟨rfl, rfl⟩ | ⟨rfl, rfl⟩)
  · exact ha
  · exact hb
theorem expr_back {f : Nat} (h : BOK f) (hf : f ≤ 1000000) {C : Nat → Nat → Value → Prop} {n : N} {v : Value} (hn : n.size ≤ f + 1) (hR : Rep C n v) (hv : isE v = true) : ExB C v n := by
  intro w hS
  have sz : ∀ {x : N}, x ∈ n.kids → x.size ≤ f := fun hx => by have := kid_lt hx; omega
  cases hR with
  | name _ s hk h0 c => exact y_name s n (nm_back (.name n s hk h0 c)) w hS
  | literal _ b hk h0 c => rw [← mk_eq (n := n) (k := ⟨#[108, 105, 116, 101, 114, 97, 108]⟩) (by rw [isK_eq hk]; simp) rfl h0]; exact y_literal b _ w hS c
  | select _ b x vx s hk h0 ex cx cs rx rs => rw [← mk_eq (n := n) (k := ⟨#[115, 101, 108, 101, 99, 116]⟩) (by rw [isK_eq hk]; simp) rfl h0]; exact y_select b s vx _ x (h.exo (sz (by simp [h0])) rx (.inr ex)) w hS cx cs rs.ident_inv.2.2
  | star _ b x vx hk ht h0 ex cx rx => rw [← mk_eq (n := n) (k := ⟨#[115, 116, 97, 114]⟩) (by rw [isK_eq hk]; simp) (text_nil ht) h0]; exact y_star b vx x (h.exo (sz (by simp [h0])) rx (.inr ex)) w hS cx
  | array _ b x vx y vy hk ht h0 ex ey cx cy rx ry => rw [← mk_eq (n := n) (k := ⟨#[97, 114, 114, 97, 121]⟩) (by rw [isK_eq hk]; simp) (text_nil ht) h0]; exact y_array b vx vy x y (two (h.exo (sz (by simp [h0])) rx ex) (h.exo (sz (by simp [h0])) ry (.inr ey))) w hS cx cy
  | map _ b x vx y vy hk ht h0 ex ey cx cy rx ry => rw [← mk_eq (n := n) (k := ⟨#[109, 97, 112]⟩) (by rw [isK_eq hk]; simp) (text_nil ht) h0]; exact y_map b vx vy x y (two (h.exo (sz (by simp [h0])) rx (.inr ex)) (h.exo (sz (by simp [h0])) ry (.inr ey))) w hS cx cy
  | chan _ b x vx d hk hd h0 ex cd cx rx =>
    have ht : n.text.toList = (dirT d).toList := by
      rcases hd with ⟨h1, rfl⟩ | ⟨h1, rfl⟩ | ⟨h1, rfl⟩ <;> rw [h1] <;> simp [dirT]
    rw [← mk_eq (n := n) (k := ⟨#[99, 104, 97, 110]⟩) (by rw [isK_eq hk]; simp) ht h0]
    exact y_chan b d (by omega) vx x (h.exo (sz (by simp [h0])) rx (.inr ex)) w hS cd cx
  | signature _ b x px y vy py hk ht h0 ct cx cy oy rx ry =>
    rw [← mk_eq (n := n) (k := ⟨#[115, 105, 103, 110, 97, 116, 117, 114, 101]⟩) (by rw [isK_eq hk]; simp) (text_nil ht) h0]
    exact y_signature b px py x y (two (h.fs (sz (by simp [h0])) rx) (h.fso (sz (by simp [h0])) ry oy)) w hS cx cy
  | struct _ b x px hk ht h0 cx rx => rw [← mk_eq (n := n) (k := ⟨#[115, 116, 114, 117, 99, 116]⟩) (by rw [isK_eq hk]; simp) (text_nil ht) h0]; exact y_struct b px x (h.fs (sz (by simp [h0])) rx) w hS cx
  | interface _ b x px hk ht h0 cx rx => rw [← mk_eq (n := n) (k := ⟨#[105, 110, 116, 101, 114, 102, 97, 99, 101]⟩) (by rw [isK_eq hk]; simp) (text_nil ht) h0]; exact y_interface b px x (h.fs (sz (by simp [h0])) rx) w hS cx
  | _ => simp [isE] at hv
theorem b_ok (f : Nat) (hf : f ≤ 1000000) : BOK f := by
  induction f with
  | zero =>
    refine ⟨?_, ?_, ?_⟩
    · intro C n v hn; have := N.size_eq n; omega
    · intro C n b hn; have := N.size_eq n; omega
    · intro C n b hn; have := N.size_eq n; omega
  | succ f ih =>
    have h := ih (by omega)
    exact ⟨fun hn hR hv => expr_back h (by omega) hn hR hv, fun hn hR => fields_back h (by omega) hn hR, fun hn hR => field_back h (by omega) hn hR⟩
theorem item_back {f : Nat} (h : BOK f) (hf : f ≤ 1000000) {C : Nat → Nat → Value → Prop} {n : N} {v : Value} (hn : n.size ≤ f + 1) (hR : Rep C n v) (hv : isS v = true) : BkOK 42 C v n := by
  intro w hS
  have sz : ∀ {x : N}, x ∈ n.kids → x.size ≤ f := fun hx => by have := kid_lt hx; omega
  cases hR with
  | path _ b x vx px t hk h0 cd cx ox rx ct rt cc => rw [← mk_eq (n := n) (k := ⟨#[112, 97, 116, 104]⟩) (by rw [isK_eq hk]; simp) rfl h0]; exact z_path b t px _ x (nm_opt rx ox) w hS cx ct rt.lit_inv.2.2
  | value _ b x y z U vl vy W wl hk ht h0 kx tx kz tz cd cl hl hr ey cy ry cw hw ew hz cc =>
    have hlx : x.kids.length < x.size := N.len_lt x
    have hlz : z.kids.length < z.size := N.len_lt z
    have hsx := sz (x := x) (by simp [h0])
    have hsz := sz (x := z) (by simp [h0])
    have h1 := names_lb ⟨#[108, 105, 115, 116]⟩ hl (by omega) hr
    have h2 : LsB C 62 ⟨#[108, 105, 115, 116]⟩ wl 48 z.kids := lb_listExpr _ wl 48 z.kids _ hw (by omega) enE fun i m hi => h.ex (by have := N.size_kid (m := z) hi; omega) (hz i m hi) (ew i m hi)
    have hxx : N.mk ⟨#[108, 105, 115, 116]⟩ ⟨#[]⟩ x.kids = x := mk_eq (by rw [isK_eq kx]; simp) (text_nil tx) rfl
    have hzz : N.mk ⟨#[108, 105, 115, 116]⟩ ⟨#[]⟩ z.kids = z := mk_eq (by rw [isK_eq kz]; simp) (text_nil tz) rfl
    have := z_value b vl vy wl x.kids z.kids y h1.ok (h.exo (sz (by simp [h0])) ry ey) h2.ok w hS cl cy cw
    rw [hxx, hzz] at this
    rwa [mk_eq (n := n) (by rw [isK_eq hk]; simp) (text_nil ht) h0] at this
  | type _ b x vx s d hk h0 cd cs rs cp ca ex cx rx cc =>
    have hx := h.exo (sz (x := x) (by simp [h0])) rx (.inr ex)
    rcases hk with ⟨hk, rfl⟩ | ⟨hk, rfl⟩
    · rw [← mk_eq (n := n) (k := ⟨#[116, 121, 112, 101]⟩) (by rw [isK_eq hk]; simp) rfl h0]; exact z_type b s vx _ x hx w hS cs rs.ident_inv.2.2 ca cx
    · rw [← mk_eq (n := n) (k := ⟨#[97, 108, 105, 97, 115]⟩) (by rw [isK_eq hk]; simp) rfl h0]; exact z_alias b s vx _ x hx w hS cs rs.ident_inv.2.2 ca cx
  | _ => simp [isS] at hv
theorem word_size {w : World} {i : Nat} {s : ByteArray} (h : tokW[i]? = some s.toList) : s.size ≤ 1000 := by
  have hall : tokW.all (fun l => decide (l.length ≤ 1000)) = true := by decide
  have := List.all_eq_true.1 hall _ (List.mem_of_getElem? h)
  rw [ByteArray.toList_eq] at this
  simpa using this
theorem decl_back {C : Nat → Nat → Value → Prop} {n : N} {t b : Nat} (ht : t = 66 ∨ t = 51) (hn : n.size ≤ 1000) (hR : Rep C n (Nd t b)) (w : World) (hS : Sees C w) (hT : TokTab w) :
    Calls Tryz.prog 21 #[Nd t b] w fun e w' => Back w.heap.size n e w' ∧ Below w.heap.size w w' := by
  have h := b_ok 1000 (by omega)
  have sz : ∀ {x : N}, x ∈ n.kids → x.size ≤ 1000 := fun hx => by have := kid_lt hx; omega
  have hnl := N.len_lt n
  have hmem : ∀ {m i}, n.kids[i]? = some m → m ∈ n.kids := fun h => List.mem_of_getElem? h
  cases hR with
  | func _ _ x y z vx px s t vz pz hk h0 cd cx ox rx cs rs ct rt cz oz rz =>
    have h1 : FsB C px x := h.fso (sz (by simp [h0])) rx ox
    have h2 : ExB C (Nd 58 t) y := h.exo (sz (by simp [h0])) rt (.inr rfl)
    have hz : ∃ kz : ByteArray, ((pz = .pointer none ∧ kz = ⟨#[110, 111, 110, 101]⟩) ∨ ∃ q, pz = Pt q ∧ kz = ⟨#[98, 111, 100, 121]⟩) ∧ N.mk kz ⟨#[]⟩ [] = z := by
      rcases oz with ⟨rfl, h⟩ | ⟨q, rfl, h⟩
      · exact ⟨_, .inl ⟨h, rfl⟩, missing_eq rz.nil_inv⟩
      · refine ⟨_, .inr ⟨q, h, rfl⟩, ?_⟩
        cases rz with
        | body _ _ hk2 ht2 h02 cl2 => exact mk_eq (by rw [isK_eq hk2]; simp) (text_nil ht2) h02
    obtain ⟨kz, hz1, hz2⟩ := hz
    have hq := e_func b s t px pz n.text kz x y hz1 h1 h2 w hS cx cs rs.ident_inv.2.2 ct cz
    rw [hz2] at hq
    rwa [mk_eq (n := n) (by rw [isK_eq hk]; simp) rfl h0] at hq
  | gen _ _ W wl tk d hk hd cd ct cg cw hw ew hz =>
    have hls : LsB C 41 ⟨#[]⟩ wl 42 n.kids := lb_listSpec _ wl 42 n.kids _ hw (by omega) enI fun i m hi => item_back h (by omega) (by have := sz (hmem hi); omega) (hz i m hi) (ew i m hi)
    have key : ∀ (i : Nat) (l : List UInt8), tokW[i]? = some l → tk = 61 + i → isK n ([100, 101, 99, 108, 97, 114, 101, 32] ++ l) = true → Calls Tryz.prog 21 #[Nd 66 b] w fun e w' => Back w.heap.size n e w' ∧ Below w.heap.size w w' := by
      intro i l hi htk hk2
      obtain ⟨s, hs, hg⟩ := hT i l hi
      have hi25 := tokW_len hi
      have hne : s.toList.isEmpty = false := by rw [hs]; exact tokW_some l (List.mem_of_getElem? hi)
      have hkk : n.kind.toList = (⟨#[100, 101, 99, 108, 97, 114, 101, 32]⟩ ++ s : ByteArray).toList := by
        rw [isK_eq hk2, ← hs, ByteArray.toList_eq, ByteArray.toList_eq]
        simp
      have hc2 : C b 2 (.int .i64 (61 + (i : Int))) := by
        have h := ct
        rw [htk] at h
        simpa using h
      rcases hd with ⟨h3, rfl⟩ | ⟨h3, rfl⟩
      · have := e_gen0 b i wl s n.kids hi25 hne (word_size (w := w) (by rw [hi, hs])) hls.ok w hg hS cw hc2 cg
        rwa [mk_eq (n := n) hkk (by rw [h3]; simp) rfl] at this
      · have := e_gen1 b i wl s n.kids hi25 hne (word_size (w := w) (by rw [hi, hs])) hls.ok w hg hS cw hc2 cg
        rwa [mk_eq (n := n) hkk (by rw [h3]; simp) rfl] at this
    unfold tokOf at hk
    repeat' split at hk
    · cases hk; exact key 14 _ rfl rfl ‹_›
    · cases hk; exact key 3 _ rfl rfl ‹_›
    · cases hk; exact key 23 _ rfl rfl ‹_›
    · cases hk; exact key 24 _ rfl rfl ‹_›
    · cases hk
  | _ => simp at ht
end Go.Proofs.YtoijkbkcfbbmfaaGreatDoor

