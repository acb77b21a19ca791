/- What is proved here: what lies below a node, the walks as functions on trees, and that Walk goes as they do. Conditions: each theorem names its own. -/
import Derived.WalkKit
import Derived.Shelf.Abstract
import Derived.ChangeKeysEq
import Derived.Test.YtoijkbkcfbbmfaaGreatDoorMb
set_option linter.all false
set_option linter.unusedVariables false
set_option linter.unusedSimpArgs false
/- What is proved here: a small executor of code that reads one block and calls: what it says of a piece of code holds of it. No program is in sight. -/
namespace Go.Proofs.YtoijkbkcfbbmfaaGreatDoor
open Go Go.Shelf
set_option linter.unusedVariables false
set_option linter.unusedSimpArgs false

/-- A value as the executor knows it: as it is; the node under look; the address of one of its cells; what an assertion gives. -/
inductive SV where
  | val (x : Value)
  | node
  | cell (o : Nat)
  | tup (x : SV) (t : Bool)
/-- What the executor is told: the program, the node's type, its block, what its cells hold, the size of the frame. -/
structure Cx where
  P : Program
  t : TypeId
  B : Nat
  M : Nat → Option Value
  K : Nat
def SV.den (X : Cx) : SV → Value
  | .val x => x
  | .node => .iface X.t (.pointer (some ⟨X.B, 0, none⟩))
  | .cell o => .pointer (some ⟨X.B, o, none⟩)
  | .tup x t => .tuple #[x.den X, .bool t]
abbrev Env := List (Nat × Option SV)
def look : Env → Nat → Option SV
  | [], _ => none
  | (i, v) :: r, j => if i == j then v else look r j
def opd (σ : Env) : Operand → Option SV
  | .tmp i => look σ i
  | .const v => some (.val v)
  | _ => none
def ptrT (P : Program) (T : TypeId) : Bool :=
  (match P.underlying T with | some (.pointer _) => true | _ => false) && (match P.info? T with | some i => (match i.zero with | some (.pointer none) => true | _ => false) | none => false)
def ptrU (P : Program) (T : TypeId) : Bool := match P.underlying T with | some (.pointer _) => true | _ => false
def ifcU (P : Program) (T : TypeId) : Bool := match P.underlying T with | some (.interface _) => true | _ => false
def oneU (P : Program) (T : TypeId) : Bool := match P.underlying T with | some (.struct _) => false | some (.array _ _) => false | some _ => true | none => false
def fldOff (P : Program) (S : TypeId) (f : Nat) : Option Nat :=
  match P.underlying S with
  | some (.struct fs) => match fs[f]? with
    | some fd => match P.info? fd.type with
      | some i => if i.size == 0 then none else some fd.offset
      | none => none
    | none => none
  | _ => none
/-- Whether a value is nil, at a type. -/
def isNil (P : Program) (T : TypeId) : Value → Option Bool
  | .nilIface => if ifcU P T then some true else none
  | .iface _ _ => if ifcU P T then some false else none
  | .pointer none => if ptrU P T then some true else none
  | .pointer (some _) => if ptrU P T then some false else none
  | _ => none
def nilFor : Value → Value → Bool
  | .nilIface, .nilIface => true
  | .iface _ _, .nilIface => true
  | .pointer _, .pointer none => true
  | _, _ => false
def asB : SV → Option Bool
  | .val (.bool t) => some t
  | _ => none
def stepOp (X : Cx) (σ : Env) : Op → Option SV
  | .move x => opd σ x
  | .assign x => opd σ x
  | .typeAssert x _ T true => match opd σ x with
    | some .node => if ptrT X.P T then (if X.t == T then some (.tup (.cell 0) true) else some (.tup (.val (.pointer none)) false)) else none
    | _ => none
  | .extract x i => match opd σ x with
    | some (.tup y t) => if i == 0 then some y else if i == 1 then some (.val (.bool t)) else none
    | _ => none
  | .pick c a b => match opd σ c with
    | some (.val (.bool t)) => if t then opd σ a else opd σ b
    | _ => none
  | .nilCheck x => match opd σ x with
    | some (.cell o) => some (.cell o)
    | _ => none
  | .fieldAddr S x f => match opd σ x with
    | some (.cell o) => if o == 0 then (fldOff X.P S f).map .cell else none
    | _ => none
  | .load T x => match opd σ x with
    | some (.cell o) => if oneU X.P T then (X.M o).map .val else none
    | _ => none
  | .makeInterface T x => match opd σ x with
    | some (.val v) => if ptrU X.P T then some (.val (.iface T v)) else none
    | _ => none
  | .binOp op T x (.const z) _ => match opd σ x with
    | some (.val v) => if nilFor v z then (match op with
        | .eql => (isNil X.P T v).map fun t => .val (.bool t)
        | .neq => (isNil X.P T v).map fun t => .val (.bool (!t))
        | _ => none) else none
    | _ => none
  | _ => none
/-- A call that is made: of a function, or of a method; what it returned, where that is told. -/
inductive Ev where
  | fn (g : Nat) (args : List SV) (res : Option Value)
  | meth (r : SV) (name : String) (args : List SV) (res : Option Value)
def opds (σ : Env) : List Operand → Option (List SV)
  | [] => some []
  | x :: r => match opd σ x, opds σ r with
    | some v, some l => some (v :: l)
    | _, _ => none
def callOp (σ : Env) (res : Option Value) : Op → Option Ev
  | .call c => match opds σ c.args.toList with
    | some l => match c.callee with
      | .value (.func g) => some (.fn g l res)
      | .invoke r name => (opd σ r).map fun v => .meth v name l res
      | _ => none
    | none => none
  | _ => none
def bindTo (X : Cx) (σ : Env) (dst : Option Tmp) (v : Option SV) : Option Env :=
  match dst with
  | none => some σ
  | some d => if Nat.blt d X.K then some ((d, v) :: σ) else none
def execOps (X : Cx) : List Oper → Env → List Value → Option (Env × List Value × List Ev)
  | [], σ, os => some (σ, os, [])
  | o :: r, σ, os =>
    if o.guard.isSome then none else
    match callOp σ os.head? o.op with
    | some ev => match bindTo X σ o.dst (os.head?.map .val) with
      | some σ' => match execOps X r σ' os.tail with
        | some (σ2, os2, evs) => some (σ2, os2, ev :: evs)
        | none => none
      | none => none
    | none => match stepOp X σ o.op with
      | some v => match bindTo X σ o.dst (some v) with
        | some σ' => execOps X r σ' os
        | none => none
      | none => none
inductive Kont where
  | code (c : Code)
  | blk (id : Nat)
def exec (X : Cx) : Nat → Code → List Kont → Env → List Value → Option (List Ev)
  | 0, _, _, _, _ => none
  | f + 1, .skip, [], _, _ => some []
  | f + 1, .skip, .code y :: k, σ, os => exec X f y k σ os
  | f + 1, .skip, .blk _ :: k, σ, os => exec X f .skip k σ os
  | f + 1, .seq x y, k, σ, os => exec X f x (.code y :: k) σ os
  | f + 1, .block id c, k, σ, os => exec X f c (.blk id :: k) σ os
  | f + 1, .exit id, .code _ :: k, σ, os => exec X f (.exit id) k σ os
  | f + 1, .exit id, .blk id' :: k, σ, os => if id == id' then exec X f .skip k σ os else exec X f (.exit id) k σ os
  | _ + 1, .ret, _, _, _ => some []
  | f + 1, .cond c x y, k, σ, os => match opd σ c with
    | some (.val (.bool t)) => if t then exec X f x k σ os else exec X f y k σ os
    | _ => none
  | f + 1, .region _ ops false, k, σ, os => match execOps X ops.toList σ os with
    | some (σ2, os2, evs) => match exec X f .skip k σ2 os2 with
      | some evs2 => some (evs ++ evs2)
      | none => none
    | none => none
  | _ + 1, _, _, _, _ => none

/-! ### What it says holds -/
def Mem (X : Cx) (w : World) : Prop := ∀ o v, X.M o = some v → w.cell? ⟨X.B, o, none⟩ = some v
def ResOK (res : Option Value) (e : Ending) : Prop := match res with
  | some v => e = .returned v
  | none => ∃ v, e = .returned v
def Trace (X : Cx) : List Ev → (World → Prop) → World → Prop
  | [], F, w => Mem X w ∧ F w
  | .fn g args res :: r, F, w => Mem X w ∧ Enters X.P g ∧ Calls X.P g (args.map (SV.den X)).toArray w fun e w' => ResOK res e ∧ Trace X r F w'
  | .meth v name args res :: r, F, w => Mem X w ∧ ∃ g a', (callMethod (v.den X) name (args.map (SV.den X)).toArray).run X.P w = .ok (.enter g a') w ∧ Calls X.P g a' w fun e w' => ResOK res e ∧ Trace X r F w'
theorem Trace.mem {X : Cx} {l : List Ev} {F : World → Prop} {w : World} (h : Trace X l F w) : Mem X w := by
  cases l with
  | nil => exact h.1
  | cons e r => cases e <;> exact h.1
structure Knows (X : Cx) (σ : Env) (a : Act) : Prop where
  size : a.tmps.size = X.K
  at_ : ∀ i v, look σ i = some v → a.tmps.getD i undef = v.den X
theorem Knows.ev {X : Cx} {σ : Env} {a : Act} (h : Knows X σ a) {x : Operand} {v : SV} (hx : opd σ x = some v) : a.eval x = v.den X := by
  cases x with
  | tmp i => exact h.at_ i v hx
  | const c => simp [opd] at hx; subst hx; rfl
  | _ => simp [opd] at hx
theorem Knows.put {X : Cx} {σ σ' : Env} {a : Act} (h : Knows X σ a) {dst : Option Tmp} {v : Option SV} {x : Value} (hb : bindTo X σ dst v = some σ') (hx : ∀ y, v = some y → x = y.den X) : Knows X σ' (a.put dst x) := by
  cases dst with
  | none => simp [bindTo] at hb; subst hb; exact h
  | some d =>
    simp only [bindTo] at hb
    split at hb
    · rename_i hlt
      have hlt : d < X.K := by rw [Nat.blt_eq] at hlt; exact hlt
      cases hb
      refine ⟨by simp [Act.put, h.size], fun i y hy => ?_⟩
      simp only [look] at hy
      simp only [Act.put, Array.getD_eq_getD_getElem?]
      by_cases hd : d = i
      · subst hd
        simp at hy
        rw [Array.getElem?_setIfInBounds_self_of_lt (by rw [h.size]; exact hlt)]
        exact hx y hy
      · rw [Array.getElem?_setIfInBounds_ne hd]
        have : (d == i) = false := by simpa using hd
        rw [this] at hy
        have := h.at_ i y hy
        rwa [Array.getD_eq_getD_getElem?] at this
    · cases hb
def den (P : Program) : List Kont → (Exit → Act → World → Prop) → Exit → Act → World → Prop
  | [], Q => Q
  | .code y :: k, Q => Exit.then (y.wp P (den P k Q)) (den P k Q)
  | .blk id :: k, Q => Exit.inBlock id (den P k Q)
theorem den_ret {P : Program} {Q : Exit → Act → World → Prop} (k : List Kont) {a : Act} {w : World} (h : Q .ret a w) : den P k Q .ret a w := by
  induction k with
  | nil => exact h
  | cons x k ih => cases x <;> exact ih

/-! ### Each operation -/
section
variable {P : Program}
theorem run_assert {T X t : TypeId} {u : Value} (h : ptrT P T = true) (w : World) :
    (Instr.typeAssert (.iface t u) X T true).run P w = .ok (if t = T then .tuple #[u, .bool true] else .tuple #[.pointer none, .bool false]) w := by
  unfold ptrT at h
  rw [Bool.and_eq_true] at h
  obtain ⟨h1, h2⟩ := h
  split at h1
  · rename_i e hu
    split at h2
    · rename_i i hi
      split at h2
      · rename_i hz
        have hr := run_underlying (w := w) hu
        have hi2 := run_typeInfo w hi
        by_cases ht : t = T
        · simp [Instr.typeAssert, hr, ht]
        · simp [Instr.typeAssert, hr, ht, zeroValue, hi2, hz]
      · cases h2
    · cases h2
  · cases h1
theorem run_fieldAt {S : TypeId} {f o B : Nat} (h : fldOff P S f = some o) (w : World) :
    (Instr.fieldAt S (.pointer (some ⟨B, 0, none⟩)) f).run P w = .ok (.pointer (some ⟨B, o, none⟩)) w := by
  unfold fldOff at h
  split at h
  · rename_i fs hu
    split at h
    · rename_i fd hf
      split at h
      · rename_i i hi
        split at h
        · cases h
        · rename_i hs
          cases h
          have hs' : i.size ≠ 0 := by simpa using hs
          have hc : P.cellsOf fd.type = i.size := by simp [Program.cellsOf, hi]
          simp [Instr.fieldAt, run_underlying (w := w) hu, hf, Instr.sureAddr, fieldPlace, run_sizeOf w hi, hc, hs', Addr.add]
          exact fun h => h.symm
      · cases h
    · cases h
  · cases h
theorem run_load {T : TypeId} {a : Addr} {v : Value} {w : World} (h : oneU P T = true) (hc : w.cell? a = some v) : (Instr.loadAt T (.pointer (some a))).run P w = .ok v w := by
  unfold oneU at h
  cases hu : P.underlying T with
  | none => rw [hu] at h; cases h
  | some d =>
    rw [hu] at h
    have ha := run_isAgg_plain (P := P) hu (by cases d <;> simp_all) w
    simp [Instr.loadAt, Instr.sureAddr, loadVar, ha, hc]
theorem run_box {T : TypeId} {v : Value} (h : ptrU P T = true) (w : World) : (Instr.makeInterface T v).run P w = .ok (.iface T v) w := by
  unfold ptrU at h
  split at h
  · rename_i e hu
    simp [Instr.makeInterface, run_underlying (w := w) hu]
  · cases h
theorem run_eqNil {T : TypeId} {v z : Value} {t : Bool} (hz : nilFor v z = true) (h : isNil P T v = some t) (w : World) : (Op.equal T v z).run P w = .ok t w := by
  unfold isNil at h
  split at h
  · split at h
    · rename_i hu
      cases h
      unfold ifcU at hu
      split at hu
      · rename_i ms hd
        cases z <;> simp [nilFor] at hz
        (show (Op.equalIn (9999 + 1) T _ _).run P w = _; rw [Op.equalIn]; simp [run_underlying (w := w) hd])
      · cases hu
    · cases h
  · split at h
    · rename_i hu
      cases h
      unfold ifcU at hu
      split at hu
      · rename_i ms hd
        cases z <;> simp [nilFor] at hz
        (show (Op.equalIn (9999 + 1) T _ _).run P w = _; rw [Op.equalIn]; simp [run_underlying (w := w) hd])
      · cases hu
    · cases h
  · split at h
    · rename_i hu
      cases h
      unfold ptrU at hu
      split at hu
      · rename_i ms hd
        cases z with
        | pointer p =>
          cases p with
          | none => (show (Op.equalIn (9999 + 1) T _ _).run P w = _; rw [Op.equalIn]; simp [run_underlying (w := w) hd])
          | some a => simp [nilFor] at hz
        | _ => simp [nilFor] at hz
      · cases hu
    · cases h
  · split at h
    · rename_i hu
      cases h
      unfold ptrU at hu
      split at hu
      · rename_i ms hd
        cases z with
        | pointer p =>
          cases p with
          | none => (show (Op.equalIn (9999 + 1) T _ _).run P w = _; rw [Op.equalIn]; simp [run_underlying (w := w) hd])
          | some a => simp [nilFor] at hz
        | _ => simp [nilFor] at hz
      · cases hu
    · cases h
  · cases h
end

theorem stepOp_sound {X : Cx} {σ : Env} {a : Act} {w : World} {o : Oper} {v : SV} (hk : Knows X σ a) (hm : Mem X w) (h : stepOp X σ o.op = some v) : (execOp a.eval o).run X.P w = .ok (.value (v.den X)) w := by
  obtain ⟨dst, op, ty, pos, after, guard⟩ := o
  cases op <;> simp only [stepOp] at h <;> try cases h
  case move x => simp [execOp, hk.ev h]
  case assign x => simp [execOp, hk.ev h]
  case typeAssert x X' T ok =>
    cases ok <;> simp only [stepOp] at h <;> try cases h
    split at h
    · rename_i hx
      split at h
      · rename_i hT
        have e := hk.ev hx
        split at h
        · rename_i ht
          cases h
          have ht : X.t = T := by simpa using ht
          simp [execOp, e, SV.den, run_assert hT, ht]
        · rename_i ht
          cases h
          have ht : ¬ X.t = T := by simpa using ht
          simp [execOp, e, SV.den, run_assert hT, ht]
      · cases h
    · cases h
  case extract x i =>
    split at h
    · rename_i y t hx
      have e := hk.ev hx
      split at h
      · rename_i hi
        cases h
        have hi : i = 0 := by simpa using hi
        subst hi
        simp [execOp, e, SV.den, Instr.extract]
      · split at h
        · rename_i hi
          cases h
          have hi : i = 1 := by simpa using hi
          subst hi
          simp [execOp, e, SV.den, Instr.extract]
        · cases h
    · cases h
  case pick c x y =>
    split at h
    · rename_i t hc
      have e := hk.ev hc
      cases t
      · simp only [Bool.false_eq_true, if_false] at h
        simp [execOp, e, SV.den, asBool, hk.ev h]
      · simp only [if_true] at h
        simp [execOp, e, SV.den, asBool, hk.ev h]
    · cases h
  case nilCheck x =>
    split at h
    · rename_i o hx
      cases h
      simp [execOp, hk.ev hx, SV.den]
    · cases h
  case fieldAddr S x f =>
    split at h
    · rename_i o hx
      split at h
      · rename_i ho
        have ho : o = 0 := by simpa using ho
        subst ho
        cases hf : fldOff X.P S f with
        | none => rw [hf] at h; cases h
        | some p =>
          rw [hf] at h
          cases h
          simp [execOp, hk.ev hx, SV.den, run_fieldAt hf]
      · cases h
    · cases h
  case load T x =>
    split at h
    · rename_i o hx
      split at h
      · rename_i hT
        cases hM : X.M o with
        | none => rw [hM] at h; cases h
        | some p =>
          rw [hM] at h
          cases h
          simp [execOp, hk.ev hx, SV.den, run_load hT (hm o p hM)]
      · cases h
    · cases h
  case makeInterface T x =>
    split at h
    · rename_i u hx
      split at h
      · rename_i hT
        cases h
        simp [execOp, hk.ev hx, SV.den, run_box hT]
      · cases h
    · cases h
  case binOp op T x y yT =>
    cases y with
    | const z =>
      simp only at h
      split at h
      · rename_i u hx
        split at h
        · rename_i hz
          have e := hk.ev hx
          have ez : a.eval (.const z) = z := rfl
          cases op <;> simp only at h <;> try cases h
          · cases hn : isNil X.P T u with
            | none => rw [hn] at h; cases h
            | some t =>
              rw [hn] at h
              cases h
              have hr := run_eqNil hz hn w
              cases u <;> cases z <;> simp [nilFor] at hz <;> simp [execOp, e, ez, SV.den, eqGuard, binOp, hr] <;> first | (cases op <;> simp_all) | skip
          · cases hn : isNil X.P T u with
            | none => rw [hn] at h; cases h
            | some t =>
              rw [hn] at h
              cases h
              have hr := run_eqNil hz hn w
              cases u <;> cases z <;> simp [nilFor] at hz <;> simp [execOp, e, ez, SV.den, eqGuard, binOp, hr]
        · cases h
      · cases h
    | _ => simp at h
theorem opds_sound {X : Cx} {σ : Env} {a : Act} (hk : Knows X σ a) : ∀ {l : List Operand} {vs : List SV}, opds σ l = some vs → l.map a.eval = vs.map (SV.den X) := by
  intro l
  induction l with
  | nil => intro vs h; simp [opds] at h; subst h; rfl
  | cons x r ih =>
    intro vs h
    simp only [opds] at h
    split at h
    · rename_i v l' hx hl
      cases h
      simp [hk.ev hx, ih hl]
    · cases h
theorem Trace.app {X : Cx} {F : World → Prop} : ∀ {l m : List Ev} {w : World}, Trace X (l ++ m) F w → Trace X l (Trace X m F) w := by
  intro l
  induction l with
  | nil => intro m w h; exact ⟨h.mem, h⟩
  | cons e r ih =>
    intro m w h
    cases e with
    | fn g args res =>
      obtain ⟨h1, h2, h3⟩ := h
      exact ⟨h1, h2, h3.mono fun e w' hx => ⟨hx.1, ih hx.2⟩⟩
    | meth v name args res =>
      obtain ⟨h1, g, a', h2, h3⟩ := h
      exact ⟨h1, g, a', h2, h3.mono fun e w' hx => ⟨hx.1, ih hx.2⟩⟩
theorem execOps_sound {X : Cx} {ops : Array Oper} {Q : Exit → Act → World → Prop} {G : World → Prop} : ∀ (l : List Oper) (σ : Env) (os : List Value) (σ2 : Env) (os2 : List Value) (evs : List Ev), execOps X l σ os = some (σ2, os2, evs) →
    ∀ (a : Act) (w : World), Knows X σ a → Trace X evs G w → (∀ a' w', Knows X σ2 a' → a'.defers = a.defers → Mem X w' → G w' → Q .normal a' w') → wpList X.P ops Q l a w := by
  intro l
  induction l with
  | nil =>
    intro σ os σ2 os2 evs h a w hk ht hq
    simp only [execOps, Option.some.injEq, Prod.mk.injEq] at h
    obtain ⟨rfl, rfl, rfl⟩ := h
    exact wpList_nil (hq a w hk rfl ht.1 ht.2)
  | cons o r ih =>
    intro σ os σ2 os2 evs h a w hk ht hq
    refine wpList_step fun K hK => ?_
    simp only [execOps] at h
    split at h
    · cases h
    · rename_i hg
      have hg : o.guard = none := by simpa using hg
      have hw : Region.wanted o (yielded ops a.tmps) = true := by simp [Region.wanted, hg]
      rw [if_pos hw]
      split at h
      · rename_i ev hc
        split at h
        · rename_i σ' hb
          split at h
          · rename_i s3 o3 e3 hr
            simp only [Option.some.injEq, Prod.mk.injEq] at h
            obtain ⟨rfl, rfl, rfl⟩ := h
            unfold callOp at hc
            split at hc
            · rename_i c hop
              split at hc
              · rename_i vs hvs
                have ha := opds_sound hk hvs
                have ha' : c.args.map a.eval = (vs.map (SV.den X)).toArray := Array.ext' (by rw [Array.toList_map, ha])
                have fin : ∀ (e : Ending) (w' : World), ResOK os.head? e → Trace X e3 G w' → (match e, w' with
                    | .returned v, w'' => K (a.put o.dst v) w''
                    | .panicked chain, w'' => Q (.panic chain) a w''
                    | .outgrown, _ => LetsOut Q) := by
                  intro e w' hres htr
                  have hv : ∃ v, e = .returned v ∧ ∀ y, os.head?.map SV.val = some y → v = y.den X := by
                    cases ho : os.head? with
                    | none => rw [ho] at hres; obtain ⟨v, rfl⟩ := hres; exact ⟨v, rfl, fun y hy => by simp at hy⟩
                    | some x => rw [ho] at hres; exact ⟨x, hres, fun y hy => by simp at hy; subst hy; rfl⟩
                  obtain ⟨v, rfl, hv⟩ := hv
                  refine hK _ _ (ih σ' os.tail _ _ _ hr (a.put o.dst v) w' (hk.put hb hv) htr fun a' w'' h1 h2 => hq a' w'' h1 (h2.trans ?_))
                  cases o.dst <;> rfl
                split at hc
                · rename_i g hcal
                  cases hc
                  obtain ⟨_, he, hcalls⟩ := ht
                  have hex : (execOp a.eval o).run X.P w = .ok (.enter g (vs.map (SV.den X)).toArray) w := by
                    have hgv : a.eval (.func g) = .func (.func g) #[] #[] := rfl
                    simp only [execOp, hop, resolve, hcal, hgv, Deferred.ofValue, invoke, ha', Array.empty_append, Array.append_empty, Sem.run_bind, Sem.run_pure, Result.andThen_ok]
                    exact he _ w
                  unfold Oper.wp
                  rw [hex, Oper.upon_enter]
                  exact hcalls.mono fun e w' hx => fin e w' hx.1 hx.2
                · rename_i rv name hcal
                  cases hrv : opd σ rv with
                  | none => rw [hrv] at hc; cases hc
                  | some v =>
                    rw [hrv] at hc
                    cases hc
                    obtain ⟨_, g, a', he, hcalls⟩ := ht
                    have hex : (execOp a.eval o).run X.P w = .ok (.enter g a') w := by
                      have h0 : (#[v.den X] ++ (vs.map (SV.den X)).toArray).extract 1 (#[v.den X] ++ (vs.map (SV.den X)).toArray).size = (vs.map (SV.den X)).toArray := by
                        simp [List.take_of_length_le]
                      have h1 : (#[v.den X] ++ (vs.map (SV.den X)).toArray)[0]? = some (v.den X) := by simp
                      simp only [execOp, hop, resolve, hcal, invoke, ha', hk.ev hrv, Sem.run_bind, Sem.run_pure, Result.andThen_ok, h0, h1]
                      exact he
                    unfold Oper.wp
                    rw [hex, Oper.upon_enter]
                    exact hcalls.mono fun e w' hx => fin e w' hx.1 hx.2
                · cases hc
              · cases hc
            · cases hc
          · cases h
        · cases h
      · rename_i hc
        split at h
        · rename_i v hv
          split at h
          · rename_i σ' hb
            have hex := stepOp_sound hk ht.mem hv
            unfold Oper.wp
            rw [hex, Oper.upon_value]
            refine hK _ _ (ih σ' os _ _ _ h (a.put o.dst (v.den X)) w (hk.put hb fun y hy => by cases hy; rfl) ht fun a' w'' h1 h2 => hq a' w'' h1 (h2.trans ?_))
            cases o.dst <;> rfl
          · cases h
        · cases h
theorem exec_all {X : Cx} {Q : Exit → Act → World → Prop} {F : World → Prop} : ∀ (f : Nat) (c : Code) (k : List Kont) (σ : Env) (os : List Value) (evs : List Ev), exec X f c k σ os = some evs →
    ∀ (a : Act) (w : World), Knows X σ a → Trace X evs F w → (∀ e a' w', (e = .normal ∨ e = .ret) → a'.defers = a.defers → F w' → Q e a' w') →
      c.wp X.P (den X.P k Q) a w ∧ (c = .skip → den X.P k Q .normal a w) ∧ (∀ id, c = .exit id → den X.P k Q (.exit id) a w) := by
  intro f
  induction f with
  | zero => intro c k σ os evs h; cases h
  | succ f ih =>
    intro c k σ os evs h a w hk ht hq
    cases c with
    | skip =>
      have key : den X.P k Q .normal a w := by
        cases k with
        | nil => simp only [exec, Option.some.injEq] at h; subst h; exact hq _ _ _ (.inl rfl) rfl ht.2
        | cons x k =>
          cases x with
          | code y => exact (ih y k σ os evs h a w hk ht hq).1
          | blk id => exact (ih .skip k σ os evs h a w hk ht hq).2.1 rfl
      exact ⟨wp_skip key, fun _ => key, fun id hid => by cases hid⟩
    | seq x y => exact ⟨wp_seq (ih x (.code y :: k) σ os evs h a w hk ht hq).1, (fun h => by cases h), fun id hid => by cases hid⟩
    | block id c => exact ⟨wp_block (ih c (.blk id :: k) σ os evs h a w hk ht hq).1, (fun h => by cases h), fun id hid => by cases hid⟩
    | exit id =>
      have key : den X.P k Q (.exit id) a w := by
        cases k with
        | nil => simp [exec] at h
        | cons x k =>
          cases x with
          | code y => exact (ih (.exit id) k σ os evs h a w hk ht hq).2.2 id rfl
          | blk id' =>
            simp only [exec] at h
            show (if id = id' then den X.P k Q .normal a w else den X.P k Q (.exit id) a w)
            split at h
            · rename_i he
              rw [if_pos (by simpa using he)]
              exact (ih .skip k σ os evs h a w hk ht hq).2.1 rfl
            · rename_i he
              rw [if_neg (by simpa using he)]
              exact (ih (.exit id) k σ os evs h a w hk ht hq).2.2 id rfl
      exact ⟨wp_exit key, (fun h => by cases h), fun id' hid => by cases hid; exact key⟩
    | ret =>
      simp only [exec, Option.some.injEq] at h; subst h
      exact ⟨wp_ret (den_ret k (hq _ _ _ (.inr rfl) rfl ht.2)), (fun h => by cases h), fun id hid => by cases hid⟩
    | cond c x y =>
      refine ⟨?_, (fun h => by cases h), fun id hid => by cases hid⟩
      simp only [exec] at h
      split at h
      · rename_i t hc
        have e := hk.ev hc
        cases t
        · exact wp_cond_false e (ih y k σ os evs (by simpa using h) a w hk ht hq).1
        · exact wp_cond_true e (ih x k σ os evs (by simpa using h) a w hk ht hq).1
      · cases h
    | region id ops dr =>
      refine ⟨?_, (fun h => by cases h), fun id hid => by cases hid⟩
      cases dr with
      | true => simp [exec] at h
      | false =>
        simp only [exec] at h
        split at h
        · rename_i s2 o2 e1 h1
          split at h
          · rename_i e2 h2
            cases h
            refine wp_region_list (execOps_sound (G := Trace X e2 F) ops.toList σ os s2 o2 e1 h1 a w hk ht.app fun a' w' hk' hd _ ht' => ?_)
            exact (ih .skip k s2 o2 e2 h2 a' w' hk' ht' fun e a2 w2 h3 h4 h5 => hq e a2 w2 h3 (h4.trans hd) h5).2.1 rfl
          · cases h
        · cases h
    | _ => simp [exec] at h
/-- A function without results whose body the executor goes through. -/
theorem exec_calls {X : Cx} {F : World → Prop} {g : Nat} {fn : Func} {args : Array Value} {w : World} {R : Ending → World → Prop} (f : Nat) (σ : Env) (os : List Value) (evs : List Ev)
    (hf : X.P.funcs[g]? = some fn) (hres : fn.results = #[]) (hK : X.K = fn.ntmps) (ha : args.size ≤ fn.ntmps) (hσ : ∀ i v, look σ i = some v → args[i]? = some (v.den X))
    (he : (fn.body.bind fun c => exec X f c [] σ os) = some evs) (ht : Trace X evs F w) (hR : ∀ w', F w' → R (.returned (.tuple #[])) w') : Calls X.P g args w R := by
  cases hb : fn.body with
  | none => rw [hb] at he; cases he
  | some c =>
    rw [hb] at he
    have he : exec X f c [] σ os = some evs := he
    refine calls_of_wp hf hb ?_
    refine (exec_all (Q := bodyPost X.P fn R) f c [] σ os evs he _ w ⟨?_, fun i v hv => ?_⟩ ht fun e a' w' h1 h2 h3 => ?_).1
    · simp; omega
    · have h := hσ i v hv
      have hi : i < args.size := (Array.getElem?_eq_some_iff.1 h).1
      rw [Array.getD_eq_getD_getElem?, Array.getElem?_append_left hi, h]
      rfl
    · rcases h1 with rfl | rfl <;> exact ⟨h2, _, results_none hres _ _ _, hR w' h3⟩
end Go.Proofs.YtoijkbkcfbbmfaaGreatDoor

/- What is proved here: what lies below a node of a declaration, in the order of the walks, and how many steps a walk takes. No program is in sight. -/
namespace Go.Proofs.YtoijkbkcfbbmfaaGreatDoor
open Go.RowKit

/-- What a node below stands for: the nodes of a list, nothing, or itself. -/
def flat (x : N) : List N := if isK x [108, 105, 115, 116] then x.kids else if missing x then [] else [x]
def here (x : N) : List N := if missing x then [] else [x]
/-- The nodes below a node, as the walks meet them. -/
def subs (n : N) : List N :=
  if isK n [102, 105, 101, 108, 100] then n.kids.tail ++ n.kids.take 1 ++ (if n.text.toList.isEmpty then [] else [litN n.text])
  else if isK n [112, 97, 116, 104] then (n.kids.take 1).flatMap here ++ [litN n.text]
  else if isK n [116, 121, 112, 101] || isK n [97, 108, 105, 97, 115] then identN n.text :: n.kids.take 1
  else if isK n [115, 101, 108, 101, 99, 116] then n.kids.take 1 ++ [identN n.text]
  else if isK n [102, 117, 110, 99] then (n.kids.take 1).flatMap here ++ identN n.text :: n.kids.tail.flatMap flat
  else n.kids.flatMap flat

theorem isK_eq {n : N} {c : List UInt8} (h : isK n c = true) : n.kind.toList = c := beq_iff_eq.1 h
theorem missing_kind {n : N} (h : missing n = true) : n.kind.toList = [110, 111, 110, 101] := by
  simp only [missing, Bool.and_eq_true] at h
  exact isK_eq h.1.1
theorem not_missing {n : N} {c : List UInt8} (h : isK n c = true) (hc : (c == [110, 111, 110, 101]) = false) : missing n = false := by
  cases hm : missing n with
  | false => rfl
  | true =>
    have h1 := missing_kind hm
    rw [isK_eq h] at h1
    rw [h1] at hc
    simp at hc
theorem flat_of {n : N} {c : List UInt8} (h : isK n c = true) (hc : (c == [110, 111, 110, 101]) = false) (hl : (c == [108, 105, 115, 116]) = false) : flat n = [n] := by
  have h1 : isK n [108, 105, 115, 116] = false := by rw [isK, isK_eq h]; exact hl
  simp [flat, h1, not_missing h hc]
theorem here_of {n : N} {c : List UInt8} (h : isK n c = true) (hc : (c == [110, 111, 110, 101]) = false) : here n = [n] := by simp [here, not_missing h hc]
theorem flat_missing {n : N} (h : missing n = true) : flat n = [] := by
  have h1 : isK n [108, 105, 115, 116] = false := by rw [isK, missing_kind h]; rfl
  simp [flat, h1, h]
theorem here_missing {n : N} (h : missing n = true) : here n = [] := by simp [here, h]
/-- A node that is there is no list. -/
theorem Rep.kind_of {C : Nat → Nat → Value → Prop} {n : N} {t b : Nat} (h : Rep C n (Nd t b)) : ∃ c, isK n c = true ∧ (c == [110, 111, 110, 101]) = false ∧ (c == [108, 105, 115, 116]) = false := by
  cases h with
  | name _ _ hk => exact ⟨_, hk, rfl, rfl⟩
  | literal _ _ hk => exact ⟨_, hk, rfl, rfl⟩
  | select _ _ _ _ _ hk => exact ⟨_, hk, rfl, rfl⟩
  | star _ _ _ _ hk => exact ⟨_, hk, rfl, rfl⟩
  | array _ _ _ _ _ _ hk => exact ⟨_, hk, rfl, rfl⟩
  | map _ _ _ _ _ _ hk => exact ⟨_, hk, rfl, rfl⟩
  | chan _ _ _ _ _ hk => exact ⟨_, hk, rfl, rfl⟩
  | signature _ _ _ _ _ _ _ hk => exact ⟨_, hk, rfl, rfl⟩
  | struct _ _ _ _ hk => exact ⟨_, hk, rfl, rfl⟩
  | interface _ _ _ _ hk => exact ⟨_, hk, rfl, rfl⟩
  | fields _ _ _ _ hk => exact ⟨_, hk, rfl, rfl⟩
  | field _ _ _ _ _ _ _ _ _ hk => exact ⟨_, hk, rfl, rfl⟩
  | path _ _ _ _ _ _ hk => exact ⟨_, hk, rfl, rfl⟩
  | value _ _ _ _ _ _ _ _ _ _ hk => exact ⟨_, hk, rfl, rfl⟩
  | type _ _ _ _ _ _ hk => rcases hk with ⟨hk, _⟩ | ⟨hk, _⟩ <;> exact ⟨_, hk, rfl, rfl⟩
  | gen _ _ _ _ _ _ hk =>
    unfold tokOf at hk
    repeat' split at hk
    · rename_i h; exact ⟨_, h, rfl, rfl⟩
    · rename_i h; exact ⟨_, h, rfl, rfl⟩
    · rename_i h; exact ⟨_, h, rfl, rfl⟩
    · rename_i h; exact ⟨_, h, rfl, rfl⟩
    · cases hk
  | func _ _ _ _ _ _ _ _ _ _ _ hk => exact ⟨_, hk, rfl, rfl⟩
  | body _ _ hk => exact ⟨_, hk, rfl, rfl⟩
theorem Rep.flat_nd {C : Nat → Nat → Value → Prop} {n : N} {t b : Nat} (h : Rep C n (Nd t b)) : flat n = [n] := by
  obtain ⟨c, h1, h2, h3⟩ := h.kind_of
  exact flat_of h1 h2 h3
theorem Rep.here_nd {C : Nat → Nat → Value → Prop} {n : N} {t b : Nat} (h : Rep C n (Nd t b)) : here n = [n] := by
  obtain ⟨c, h1, h2, _⟩ := h.kind_of
  exact here_of h1 h2
theorem Rep.nil_inv {C : Nat → Nat → Value → Prop} {n : N} (h : Rep C n .nilIface) : missing n = true := by
  cases h with
  | none _ h => exact h
theorem flatMap_self {ks : List N} (h : ∀ m ∈ ks, flat m = [m]) : ks.flatMap flat = ks := by
  induction ks with
  | nil => rfl
  | cons x r ih =>
    rw [List.flatMap_cons, h x (by simp), ih (fun m hm => h m (by simp [hm]))]
    rfl
theorem mem_get {ks : List N} {m : N} (h : m ∈ ks) : ∃ i : Nat, ks[i]? = some m := by
  obtain ⟨i, hi, he⟩ := List.getElem_of_mem h
  exact ⟨i, by rw [List.getElem?_eq_getElem hi, he]⟩
theorem below_plain {n : N} {c : List UInt8} (h : isK n c = true) (hc : ([[102, 105, 101, 108, 100], [112, 97, 116, 104], [116, 121, 112, 101], [97, 108, 105, 97, 115], [115, 101, 108, 101, 99, 116], [102, 117, 110, 99]].contains c) = false) : subs n = n.kids.flatMap flat := by
  have hk := isK_eq h
  simp at hc
  obtain ⟨h1, h2, h3, h4, h5, h6⟩ := hc
  simp [subs, isK, hk, h1, h2, h3, h4, h5, h6]
theorem Rep.nd {C : Nat → Nat → Value → Prop} {n : N} {v : Value} (h : Rep C n v) (hv : v ≠ .nilIface) : ∃ t b, v = Nd t b := by
  cases h with
  | none => exact absurd rfl hv
  | _ => exact ⟨_, _, rfl⟩
theorem ne_of_isE {v : Value} (h : isE v = true) : v ≠ .nilIface := by rintro rfl; cases h
theorem ne_of_isS {v : Value} (h : isS v = true) : v ≠ .nilIface := by rintro rfl; cases h
theorem kid_lt {n m : N} (h : m ∈ n.kids) : m.size < n.size := by
  obtain ⟨i, hi⟩ := mem_get h
  exact N.size_kid hi
theorem one_lt {n m : N} (h : m ∈ n.kids) : 1 < n.size := by
  have h1 := kid_lt h
  have h2 := N.size_eq m
  omega
def Sub (C : Nat → Nat → Value → Prop) (n c : N) : Prop := c.size < n.size ∧ ∃ t' b', Rep C c (Nd t' b')
theorem Sub.kid {C : Nat → Nat → Value → Prop} {n c : N} {v : Value} (h : Rep C c v) (hv : v ≠ .nilIface) (hm : c ∈ n.kids) : Sub C n c := by
  obtain ⟨t, b, rfl⟩ := h.nd hv
  exact ⟨kid_lt hm, t, b, h⟩
theorem Sub.deep {C : Nat → Nat → Value → Prop} {n x c : N} {v : Value} (h : Rep C c v) (hv : v ≠ .nilIface) (hm : c ∈ x.kids) (hx : x ∈ n.kids) : Sub C n c := by
  obtain ⟨t, b, rfl⟩ := h.nd hv
  exact ⟨Nat.lt_trans (kid_lt hm) (kid_lt hx), t, b, h⟩
theorem Sub.id {C : Nat → Nat → Value → Prop} {n x : N} {t : ByteArray} {s : Nat} (h : Rep C (identN t) (Nd 55 s)) (hx : x ∈ n.kids) : Sub C n (identN t) :=
  ⟨by have := one_lt hx; simpa [identN, N.size, N.sizes] using this, _, _, h⟩
theorem Sub.lit {C : Nat → Nat → Value → Prop} {n x : N} {t : ByteArray} {s : Nat} (h : Rep C (litN t) (Nd 97 s)) (hx : x ∈ n.kids) : Sub C n (litN t) :=
  ⟨by have := one_lt hx; simpa [litN, N.size, N.sizes] using this, _, _, h⟩
theorem Sub.ofHere {C : Nat → Nat → Value → Prop} {n x : N} {ty : Nat} {v p : Value} (h : Rep C x v) (ho : OPt ty v p) (hx : x ∈ n.kids) : ∀ c ∈ here x, Sub C n c := by
  rcases ho with ⟨rfl, _⟩ | ⟨b, rfl, _⟩
  · rw [here_missing h.nil_inv]; intro c hc; simp at hc
  · rw [h.here_nd]; intro c hc; simp at hc; subst hc; exact .kid h (by simp) hx
theorem Sub.ofFlat {C : Nat → Nat → Value → Prop} {n x : N} {ty : Nat} {v p : Value} (h : Rep C x v) (ho : OPt ty v p) (hx : x ∈ n.kids) : ∀ c ∈ flat x, Sub C n c := by
  rcases ho with ⟨rfl, _⟩ | ⟨b, rfl, _⟩
  · rw [flat_missing h.nil_inv]; intro c hc; simp at hc
  · rw [h.flat_nd]; intro c hc; simp at hc; subst hc; exact .kid h (by simp) hx
theorem Sub.ofFlat1 {C : Nat → Nat → Value → Prop} {n x : N} {v : Value} (h : Rep C x v) (hv : v = .nilIface ∨ isE v = true) (hx : x ∈ n.kids) : ∀ c ∈ flat x, Sub C n c := by
  rcases hv with rfl | hv
  · rw [flat_missing h.nil_inv]; intro c hc; simp at hc
  · obtain ⟨t, b, rfl⟩ := h.nd (ne_of_isE hv)
    rw [h.flat_nd]; intro c hc; simp at hc; subst hc; exact .kid h (by simp) hx
theorem flat_list {x : N} (h : isK x [108, 105, 115, 116] = true) : flat x = x.kids := by simp [flat, h]
theorem below_field {n x : N} {r : List N} (h : isK n [102, 105, 101, 108, 100] = true) (hk : n.kids = x :: r) : subs n = r ++ [x] ++ (if n.text.toList.isEmpty then [] else [litN n.text]) := by
  simp [subs, h, hk]
theorem below_path {n x : N} (h : isK n [112, 97, 116, 104] = true) (hk : n.kids = [x]) : subs n = here x ++ [litN n.text] := by
  have h1 := isK_eq h
  simp [subs, isK, h1, hk]
theorem below_type {n x : N} (h : isK n [116, 121, 112, 101] = true ∨ isK n [97, 108, 105, 97, 115] = true) (hk : n.kids = [x]) : subs n = [identN n.text, x] := by
  rcases h with h | h <;> have h1 := isK_eq h <;> simp [subs, isK, h1, hk]
theorem below_select {n x : N} (h : isK n [115, 101, 108, 101, 99, 116] = true) (hk : n.kids = [x]) : subs n = [x, identN n.text] := by
  have h1 := isK_eq h
  simp [subs, isK, h1, hk]
theorem below_func {n x y z : N} (h : isK n [102, 117, 110, 99] = true) (hk : n.kids = [x, y, z]) : subs n = here x ++ identN n.text :: (flat y ++ flat z) := by
  have h1 := isK_eq h
  simp [subs, isK, h1, hk]
theorem tokOf_kind {n : N} {t : Nat} (h : tokOf n = some t) : isK n [100, 101, 99, 108, 97, 114, 101, 32, 105, 109, 112, 111, 114, 116] = true ∨ isK n [100, 101, 99, 108, 97, 114, 101, 32, 99, 111, 110, 115, 116] = true ∨ isK n [100, 101, 99, 108, 97, 114, 101, 32, 116, 121, 112, 101] = true ∨ isK n [100, 101, 99, 108, 97, 114, 101, 32, 118, 97, 114] = true := by
  unfold tokOf at h
  repeat' split at h
  · exact .inl ‹_›
  · exact .inr (.inl ‹_›)
  · exact .inr (.inr (.inl ‹_›))
  · exact .inr (.inr (.inr ‹_›))
  · cases h
theorem below_gen {n : N} {t : Nat} (h : tokOf n = some t) : subs n = n.kids.flatMap flat := by
  rcases tokOf_kind h with h | h | h | h <;> exact below_plain h rfl
/-- The trees below, and that each lies in memory. -/
theorem Rep.below_rep {C : Nat → Nat → Value → Prop} {n : N} {t b : Nat} (h : Rep C n (Nd t b)) : ∀ c ∈ subs n, Sub C n c := by
  cases h with
  | name _ _ hk h0 => rw [below_plain hk rfl, h0]; simp
  | literal _ _ hk h0 => rw [below_plain hk rfl, h0]; simp
  | select _ _ x vx s hk h0 ex cx cs rx rs =>
    rw [below_select hk h0]
    intro c hc
    simp only [List.mem_cons, List.mem_nil_iff, or_false] at hc
    rcases hc with rfl | rfl
    · exact .kid rx (ne_of_isE ex) (by simp [h0])
    · exact .id (x := x) rs (by simp [h0])
  | star _ _ x vx hk ht h0 ex cx rx =>
    rw [below_plain hk rfl, h0]
    simpa using Sub.ofFlat1 rx (.inr ex) (by simp [h0])
  | array _ _ x vx y vy hk ht h0 ex ey cx cy rx ry =>
    rw [below_plain hk rfl, h0]
    intro c hc
    simp only [List.flatMap_cons, List.flatMap_nil, List.append_nil, List.mem_append] at hc
    rcases hc with hc | hc
    · exact Sub.ofFlat1 rx ex (by simp [h0]) c hc
    · exact Sub.ofFlat1 ry (.inr ey) (by simp [h0]) c hc
  | map _ _ x vx y vy hk ht h0 ex ey cx cy rx ry =>
    rw [below_plain hk rfl, h0]
    intro c hc
    simp only [List.flatMap_cons, List.flatMap_nil, List.append_nil, List.mem_append] at hc
    rcases hc with hc | hc
    · exact Sub.ofFlat1 rx (.inr ex) (by simp [h0]) c hc
    · exact Sub.ofFlat1 ry (.inr ey) (by simp [h0]) c hc
  | chan _ _ x vx d hk hd h0 ex cd cx rx =>
    rw [below_plain hk rfl, h0]
    simpa using Sub.ofFlat1 rx (.inr ex) (by simp [h0])
  | signature _ _ x px y vy py hk ht h0 ct cx cy oy rx ry =>
    rw [below_plain hk rfl, h0]
    intro c hc
    simp only [List.flatMap_cons, List.flatMap_nil, List.append_nil, List.mem_append] at hc
    rcases hc with hc | hc
    · exact Sub.ofFlat rx (.inr ⟨_, rfl, rfl⟩) (by simp [h0]) c hc
    · exact Sub.ofFlat ry oy (by simp [h0]) c hc
  | struct _ _ x px hk ht h0 cx rx =>
    rw [below_plain hk rfl, h0]
    simpa using Sub.ofFlat rx (.inr ⟨_, rfl, rfl⟩) (by simp [h0])
  | interface _ _ x px hk ht h0 cx rx =>
    rw [below_plain hk rfl, h0]
    simpa using Sub.ofFlat rx (.inr ⟨_, rfl, rfl⟩) (by simp [h0])
  | fields _ _ V vl hk ht cl hl hr =>
    rw [below_plain hk rfl]
    intro c hc
    obtain ⟨m, hm, hc⟩ := List.mem_flatMap.1 hc
    obtain ⟨i, hi⟩ := mem_get hm
    exact Sub.ofFlat (hr i m hi) (.inr ⟨_, rfl, rfl⟩) hm c hc
  | field _ _ x r vx V vl vt pt hk h0 cd cl hl hr ex cx rx ct ot rt cc =>
    rw [below_field hk h0]
    intro c hc
    simp only [List.mem_append, List.mem_singleton] at hc
    rcases hc with (hc | rfl) | hc
    · obtain ⟨i, hi⟩ := mem_get hc
      exact .kid (hr i c hi) (by simp) (by simp [h0, hc])
    · exact .kid rx (ne_of_isE ex) (by simp [h0])
    · split at hc
      · simp at hc
      · rename_i hne
        simp only [List.mem_singleton] at hc
        subst hc
        rw [tagN, if_neg hne] at rt
        rcases ot with ⟨rfl, _⟩ | ⟨s, rfl, _⟩
        · exact absurd rt.nil_inv (by simp [missing, litN, isK, N.kind])
        · exact .lit (x := x) rt (by simp [h0])
  | path _ _ x vx px t hk h0 cd cx ox rx ct rt cc =>
    rw [below_path hk h0]
    intro c hc
    simp only [List.mem_append, List.mem_singleton] at hc
    rcases hc with hc | rfl
    · exact Sub.ofHere rx ox (by simp [h0]) c hc
    · exact .lit (x := x) rt (by simp [h0])
  | value _ _ x y z V vl vy W wl hk ht h0 kx tx kz tz cd cl hl hr ey cy ry cw hw ew hz cc =>
    rw [below_plain hk rfl, h0]
    intro c hc
    simp only [List.flatMap_cons, List.flatMap_nil, List.append_nil, List.mem_append, flat_list kx, flat_list kz] at hc
    rcases hc with hc | hc | hc
    · obtain ⟨i, hi⟩ := mem_get hc
      exact .deep (hr i c hi) (by simp) hc (by simp [h0])
    · exact Sub.ofFlat1 ry ey (by simp [h0]) c hc
    · obtain ⟨i, hi⟩ := mem_get hc
      exact .deep (hz i c hi) (ne_of_isE (ew i c hi)) hc (by simp [h0])
  | type _ _ x vx s d hk h0 cd cs rs cp ca ex cx rx cc =>
    rw [below_type (hk.imp And.left And.left) h0]
    intro c hc
    simp only [List.mem_cons, List.mem_nil_iff, or_false] at hc
    rcases hc with rfl | rfl
    · exact .id (x := x) rs (by simp [h0])
    · exact .kid rx (ne_of_isE ex) (by simp [h0])
  | gen _ _ W wl t d hk hd cd ct cg cw hw ew hz =>
    rw [below_gen hk]
    intro c hc
    obtain ⟨m, hm, hc⟩ := List.mem_flatMap.1 hc
    obtain ⟨i, hi⟩ := mem_get hm
    obtain ⟨t', b', he⟩ := (hz i m hi).nd (ne_of_isS (ew i m hi))
    have hr := hz i m hi
    rw [he] at hr
    rw [hr.flat_nd] at hc
    simp only [List.mem_singleton] at hc
    subst hc
    exact .kid hr (by simp) hm
  | func _ _ x y z vx px s t vz pz hk h0 cd cx ox rx cs rs ct rt cz oz rz =>
    rw [below_func hk h0]
    intro c hc
    simp only [List.mem_append, List.mem_cons] at hc
    rcases hc with hc | rfl | hc | hc
    · exact Sub.ofHere rx ox (by simp [h0]) c hc
    · exact .id (x := x) rs (by simp [h0])
    · exact Sub.ofFlat rt (.inr ⟨_, rfl, rfl⟩) (by simp [h0]) c hc
    · exact Sub.ofFlat rz oz (by simp [h0]) c hc
  | body _ _ hk ht h0 => rw [below_plain hk rfl, h0]; simp

/-! ### The walks, as functions on trees -/
/-- A visitor on trees: what it does at a node (its depth), whether it goes on; what it does behind the nodes below. -/
structure Vis (S : Type) where
  node : Nat → N → S → S × Bool
  fin : Nat → S → S
def wk {S : Type} (V : Vis S) : Nat → Nat → N → S → S
  | 0, _, _, s => s
  | f + 1, d, n, s => if (V.node d n s).2 then V.fin (d + 1) ((subs n).foldl (fun s c => wk V f (d + 1) c s) (V.node d n s).1) else (V.node d n s).1
/-- How many calls of a visitor a walk makes at most. -/
def cost : Nat → N → Nat
  | 0, _ => 0
  | f + 1, n => ((subs n).map (cost f)).sum + 2
def kinds : Nat → N → List ByteArray
  | 0, _ => []
  | f + 1, n => n.kind :: (subs n).flatMap (kinds f)
def evs (stop : List UInt8) : Nat → N → List ByteArray
  | 0, _ => []
  | f + 1, n => n.kind :: (if n.kind.toList == stop then [] else (subs n).flatMap (evs stop f) ++ [⟨#[]⟩])
def visits (stop : List UInt8) : Nat → Nat → N → List (ByteArray × Nat)
  | 0, _, _ => []
  | f + 1, d, n => (n.kind, d) :: (if n.kind.toList == stop then [] else (subs n).flatMap (visits stop f (d + 1)) ++ [(⟨#[]⟩, d + 1)])
def fieldN (f : N) : Nat := if f.kids.length ≤ 1 then 1 else f.kids.length - 1
def nums : Nat → N → List Nat
  | 0, _ => []
  | f + 1, n => (if isK n [102, 105, 101, 108, 100, 115] then [(n.kids.map fieldN).sum] else []) ++ (subs n).flatMap (nums f)
def stacks (stop : List UInt8) : Nat → List ByteArray → N → List (List ByteArray)
  | 0, _, _ => []
  | f + 1, up, n => (up ++ [n.kind]) :: (if n.kind.toList == stop then [] else (subs n).flatMap (stacks stop f (up ++ [n.kind])))
end Go.Proofs.YtoijkbkcfbbmfaaGreatDoor

