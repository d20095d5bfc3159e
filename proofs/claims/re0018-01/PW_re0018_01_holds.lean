import PyProof.Rows.All
import Wide.All
import OpenK.AllK
import Wide.FinOn
import PyProof.AutoFloatOps
import PyProof.AutoIntG1
import PyProof.AutoIntG4
import PyProof.AutoIntG6
import PyProof.AutoIntG9
import PyProof.FactsAll.int_2
import PyProof.FactsAll.int_3
import PyProof.FactsAll.int_5
import PyProof.MeetsDict
import PyProof.FactsDict
import PyProof.FactsAll.float_3
import PyProof.FactsAll.float_4
import PyProof.SumWalk
import PyProof.WalkInts
import PyProof.MinMaxWalk
import PyProof.TupleIter
import KE.KEqDict
import PyProof.StrOps
import PyProof.StrOps2
import PyProof.ListIndex
import PyProof.SeqRoads
import PyProof.SliceStr
import PyProof.FitsReplace
import PyProof.MeetsStr
import PyProof.StrBlockL
import PySem.Builtin.Sre.Common
import PyProof.WalksMore
import PyProof.StrWalks
import PyProof.Comp
import PyProof.Rows.Chain
import PySem.Challenge.RW_re0018_01
set_option Elab.async false
set_option maxRecDepth 100000
set_option maxHeartbeats 4000000
set_option genSizeOf false
set_option genSizeOfSpec false
namespace Mine
open PySem PySem.W PySem.W.X


/-- the call's own objects, with gaps -/
inductive GT where
  | nil
  | node (v : Option Obj) (l r : GT)
namespace GT
noncomputable def get : GT → Nat → Option Obj
  | .nil, _ => none
  | .node v l r, i => match Nat.beq i 0 with
    | true => v
    | false => match Nat.beq (i % 2) 1 with
      | true => l.get (i / 2)
      | false => r.get (i / 2 - 1)
noncomputable def set : GT → Nat → (Obj → Obj) → GT
  | .nil, _, _ => .nil
  | .node v l r, i, f => match Nat.beq i 0 with
    | true => .node (v.map f) l r
    | false => match Nat.beq (i % 2) 1 with
      | true => .node v (l.set (i / 2) f) r
      | false => .node v l (r.set (i / 2 - 1) f)
noncomputable def ins : Nat → GT → Nat → Obj → GT
  | 0, t, _, _ => t
  | n + 1, t, i, o => match t with
    | .nil => match Nat.beq i 0 with
      | true => .node (some o) .nil .nil
      | false => match Nat.beq (i % 2) 1 with
        | true => .node none (ins n .nil (i / 2) o) .nil
        | false => .node none .nil (ins n .nil (i / 2 - 1) o)
    | .node v l r => match Nat.beq i 0 with
      | true => .node (some o) l r
      | false => match Nat.beq (i % 2) 1 with
        | true => .node v (ins n l (i / 2) o) r
        | false => .node v l (ins n r (i / 2 - 1) o)
theorem get_node (v : Option Obj) (l r : GT) (i : Nat) : (node v l r).get i = if i = 0 then v else if i % 2 = 1 then l.get (i / 2) else r.get (i / 2 - 1) := by
  show (match Nat.beq i 0 with | true => v | false => match Nat.beq (i % 2) 1 with | true => l.get (i / 2) | false => r.get (i / 2 - 1)) = _
  rw [BT.beq_eq, BT.beq_eq]
  by_cases h : i = 0
  · simp [h]
  · by_cases q : i % 2 = 1 <;> simp [h, q]
theorem set_node (v : Option Obj) (l r : GT) (i : Nat) (f : Obj → Obj) : (node v l r).set i f = if i = 0 then node (v.map f) l r else if i % 2 = 1 then node v (l.set (i / 2) f) r else node v l (r.set (i / 2 - 1) f) := by
  show (match Nat.beq i 0 with | true => node (v.map f) l r | false => match Nat.beq (i % 2) 1 with | true => node v (l.set (i / 2) f) r | false => node v l (r.set (i / 2 - 1) f)) = _
  rw [BT.beq_eq, BT.beq_eq]
  by_cases h : i = 0
  · simp [h]
  · by_cases q : i % 2 = 1 <;> simp [h, q]
theorem get_set (f : Obj → Obj) : ∀ (t : GT) (i j : Nat), (t.set i f).get j = if j = i then (t.get i).map f else t.get j
  | .nil, i, j => by
    show none = _
    by_cases h : j = i <;> simp [h, get]
  | .node v l r, i, j => by
    rw [set_node, get_node v l r i, get_node v l r j]
    by_cases hi : i = 0
    · subst hi
      rw [if_pos rfl, get_node]
      by_cases hj : j = 0 <;> simp [hj]
    · rw [if_neg hi]
      by_cases pi : i % 2 = 1
      · rw [if_pos pi, get_node]
        by_cases hj : j = 0
        · simp [hj, Ne.symm hi]
        · by_cases pj : j % 2 = 1
          · simp only [if_neg hj, if_pos pj, if_neg hi, if_pos pi]
            rw [get_set f l (i / 2) (j / 2)]
            have : (j / 2 = i / 2) ↔ (j = i) := by lia
            by_cases e : j = i
            · rw [if_pos e, if_pos (this.mpr e)]
            · rw [if_neg e, if_neg (fun x => e (this.mp x))]
          · have : j ≠ i := by lia
            simp [hj, pj, this]
      · rw [if_neg pi, get_node]
        by_cases hj : j = 0
        · simp [hj, Ne.symm hi]
        · by_cases pj : j % 2 = 1
          · have : j ≠ i := by lia
            simp [hj, pj, this]
          · simp only [if_neg hj, if_neg pj, if_neg hi, if_neg pi]
            rw [get_set f r (i / 2 - 1) (j / 2 - 1)]
            have : (j / 2 - 1 = i / 2 - 1) ↔ (j = i) := by lia
            by_cases e : j = i
            · rw [if_pos e, if_pos (this.mpr e)]
            · rw [if_neg e, if_neg (fun x => e (this.mp x))]
theorem ins_nil (n i : Nat) (o : Obj) : ins (n + 1) .nil i o = ins (n + 1) (.node none .nil .nil) i o := by
  show (match Nat.beq i 0 with | true => node (some o) .nil .nil | false => match Nat.beq (i % 2) 1 with | true => node none (ins n .nil (i / 2) o) .nil | false => node none .nil (ins n .nil (i / 2 - 1) o)) = _
  rfl
theorem ins_node (n : Nat) (v : Option Obj) (l r : GT) (i : Nat) (o : Obj) : ins (n + 1) (node v l r) i o = if i = 0 then node (some o) l r else if i % 2 = 1 then node v (ins n l (i / 2) o) r else node v l (ins n r (i / 2 - 1) o) := by
  show (match Nat.beq i 0 with | true => node (some o) l r | false => match Nat.beq (i % 2) 1 with | true => node v (ins n l (i / 2) o) r | false => node v l (ins n r (i / 2 - 1) o)) = _
  rw [BT.beq_eq, BT.beq_eq]
  by_cases h : i = 0
  · simp [h]
  · by_cases q : i % 2 = 1 <;> simp [h, q]
theorem get_ins (o : Obj) : ∀ (n : Nat) (t : GT) (i j : Nat), i + 1 < 2 ^ n → (ins n t i o).get j = if j = i then some o else t.get j
  | 0, t, i, j, h => by simp at h
  | n + 1, t, i, j, h => by
    have main : ∀ v l r, (ins (n + 1) (node v l r) i o).get j = if j = i then some o else (node v l r).get j := by
      intro v l r
      rw [ins_node, get_node v l r j]
      by_cases hi : i = 0
      · subst hi
        rw [if_pos rfl, get_node]
        by_cases hj : j = 0 <;> simp [hj]
      · rw [if_neg hi]
        by_cases pi : i % 2 = 1
        · rw [if_pos pi, get_node]
          by_cases hj : j = 0
          · simp [hj, Ne.symm hi]
          · by_cases pj : j % 2 = 1
            · simp only [if_neg hj, if_pos pj]
              rw [get_ins o n l (i / 2) (j / 2) (by rw [Nat.pow_succ] at h; lia)]
              have : (j / 2 = i / 2) ↔ (j = i) := by lia
              by_cases e : j = i
              · rw [if_pos e, if_pos (this.mpr e)]
              · rw [if_neg e, if_neg (fun x => e (this.mp x))]
            · have : j ≠ i := by lia
              simp [hj, pj, this]
        · rw [if_neg pi, get_node]
          by_cases hj : j = 0
          · simp [hj, Ne.symm hi]
          · by_cases pj : j % 2 = 1
            · have : j ≠ i := by lia
              simp [hj, pj, this]
            · simp only [if_neg hj, if_neg pj]
              rw [get_ins o n r (i / 2 - 1) (j / 2 - 1) (by rw [Nat.pow_succ] at h; lia)]
              have : (j / 2 - 1 = i / 2 - 1) ↔ (j = i) := by lia
              by_cases e : j = i
              · rw [if_pos e, if_pos (this.mpr e)]
              · rw [if_neg e, if_neg (fun x => e (this.mp x))]
    cases t with
    | nil =>
      rw [ins_nil, main]
      have : (node none .nil .nil).get j = GT.nil.get j := by
        rw [get_node]
        show _ = none
        by_cases hj : j = 0
        · simp [hj]
        · by_cases pj : j % 2 = 1 <;> simp [hj, pj, get]
      rw [this]
    | node v l r => exact main v l r
end GT

/-- what the run is told beforehand -/
inductive Orc where
  | bool (b : Bool)
  | int (p : Int)
  | flt (u : UInt64)
  | val (v : Value)
  | item (v : Value)
  | texts (l : List Str)
  | given (args : List (Nat × Obj)) (v : Value) (i m : Nat) (objs : List (Nat × Obj))

/-- a tree whose comparisons of objects and whose entries lie open -/
inductive XT where
  | sem (t : Sem Fin)
  | seg (t : Sem Fin) (k : Flow → XT)
  | segA (t : Sem Fin) (k : Code → XT)
  | enter (x : XT)
  | cmp (op : CmpOp) (a b : Value) (k : Value → XT)
  | fact (A : Prop) (x : XT)

inductive KX where
  | base
  | ret (c : Code) (k : Result → Sem Fin) (κ : KX)
  | seg (k : Flow → XT) (κ : KX)
  | segA (k : Code → XT) (κ : KX)

/-- ad: the address of the call's own j-th object; gap: the places at which ad may jump; old: what stands at written addresses; args: what stands at others. An address is told by a tag: 0 old, 2 j + 1 own, 2 k + 2 an argument -/
structure Ev where
  ad : Nat → Addr
  gap : Nat → Bool
  old : Addr → Option Obj
  args : Nat → Option (Addr × Obj)
  st : Setting
  t₀ : Nat
  dep : Nat
  auto : Bool

/-- what is asserted so far: facts, and addresses told by their tags -/
inductive PS where
  | nil
  | and (p : PS) (A : Prop)
  | eq (p : PS) (a : Addr) (t : Nat)

noncomputable def Ev.want (E : Ev) (t : Nat) : Addr := match t with
  | 0 => 0
  | t + 1 => match t % 2 with
    | 0 => E.ad (t / 2)
    | _ => match E.args (t / 2) with
      | some (a, _) => a
      | none => 0
noncomputable def lookT (E : Ev) (T : GT) (a : Addr) (t : Nat) : Option Obj := match t with
  | 0 => E.old a
  | t + 1 => match t % 2 with
    | 0 => T.get (t / 2)
    | _ => match E.args (t / 2) with
      | some (_, o) => some o
      | none => none
noncomputable def PS.holds (E : Ev) : PS → Prop
  | .nil => True
  | .and p A => p.holds E ∧ A
  | .eq p a t => p.holds E ∧ (t ≠ 0 → a = E.want t)
noncomputable def PS.prop : PS → Prop
  | .nil => True
  | .and p A => p.prop ∧ A
  | .eq p _ _ => p.prop
noncomputable def PS.accs : PS → List (Addr × Nat)
  | .nil => []
  | .and p _ => p.accs
  | .eq p a t => (a, t) :: p.accs

/-- for a look at what the tags are: own objects from 1000000 on, arguments from 900000 on -/
noncomputable def tagOf (a : Addr) : Nat := match Nat.blt a 500000 with
  | true => 0
  | false => match Nat.blt a 1000000 with
    | true => 2 * (a - 900000) + 2
    | false => 2 * (a - 1000000) + 1
noncomputable def tagN (E : Ev) (a : Addr) (ts : Nat) : Nat := match E.auto with
  | true => tagOf a
  | false => ts % 4096
noncomputable def tagR (E : Ev) (ts : Nat) : Nat := match E.auto with
  | true => ts
  | false => ts / 4096
noncomputable def note (E : Ev) (p : PS) (a : Addr) (t : Nat) : PS := match t with
  | 0 => match E.auto with
    | true => .eq p a 0
    | false => p
  | t + 1 => .eq p a (t + 1)
noncomputable def notes (E : Ev) (p : PS) : List (Addr × Nat) → PS
  | [] => p
  | (a, t) :: l => notes E (note E p a t) l

inductive Out where
  | stop (n : Nat)
  | done (p : PS) (r : Result) (T : GT) (m i : Nat) (os : List Orc) (ts : Nat)

/-- a hook's answer: what it asserts, the addresses it read, the value, the heap -/
structure HOut where
  A : Option Prop
  q : List (Addr × Nat)
  v : Value
  T : GT
  i : Nat
  os : List Orc
  ts : Nat
  new : Option (Option Obj) := none
noncomputable def HOut.outT (o : HOut) (m : Nat) : GT := match o.new with
  | some (some ob) => GT.ins 30 o.T m ob
  | _ => o.T
noncomputable def HOut.outM (o : HOut) (m : Nat) : Nat := match o.new with
  | some _ => m + 1
  | none => m
noncomputable def HOut.outV (o : HOut) (E : Ev) (m : Nat) : Value := match o.new with
  | some (some _) => .ref (E.ad m)
  | _ => o.v
/-- a turn's -/
structure TOut where
  A : Option Prop
  q : List (Addr × Nat)
  c : Code
  T : GT
  i : Nat
  os : List Orc
  ts : Nat
/-- a comparison's -/
structure COut where
  A : Option Prop
  q : List (Addr × Nat)
  v : Value
  os : List Orc
  ts : Nat

noncomputable def lidA : Nat := 100000000
noncomputable def andO (P : PS) (A : Option Prop) : PS := match A with
  | none => P
  | some A => .and P A
noncomputable abbrev RunTy := List Orc → Nat → PS → Code → KX → Sem Fin → GT → Nat → Nat → Out
structure Hooks where
  leaf : Ev → Code → GT → Nat → List Orc → Nat → Option HOut
  turn : Ev → Code → GT → Nat → List Orc → Nat → Option TOut
  givens : Code → Bool
  lim : Nat
  cmp : Ev → GT → CmpOp → Value → Value → List Orc → Nat → Option COut
  given : (Nat → Addr) → Setting → Nat → List (Addr × Obj) → Code → Nat → Value → Nat → Nat → List (Nat × Obj) → Prop

/-- a bound of a code's weight and of its C units -/
noncomputable def wC : Code → Nat
  | .builtin _ _ => 2000
  | _ => 5
noncomputable def wK : KX → Nat
  | .base => 0
  | .ret c _ κ => wK κ + wC c
  | .seg _ κ => wK κ
  | .segA _ κ => wK κ

noncomputable def goX (E : Ev) (H : Hooks) (ih : RunTy) (c : Code) (κ : KX) (T : GT) (m i : Nat) : XT → List Orc → Nat → PS → Out
  | .sem t => fun os ts P => ih os ts P c κ t T m i
  | .seg t k => fun os ts P => ih os ts P c (.seg k κ) t T m i
  | .segA t k => fun os ts P => ih os ts P c (.segA k κ) t T m i
  | .enter x => fun os ts P => match Nat.blt (E.dep + wK κ + wC c) 900 with
    | true => goX E H ih c κ T m i x os ts P
    | false => .stop 54
  | .fact A x => fun os ts P => goX E H ih c κ T m i x os ts (.and P A)
  | .cmp op a b k => fun os ts P => match Nat.blt (E.dep + wK κ + wC c) 900 with
    | true => match H.cmp E T op a b os ts with
      | some o => goX E H ih c κ T m i (k o.v) o.os o.ts (andO (notes E P o.q) o.A)
      | none => .stop 51
    | false => .stop 54

noncomputable def retD (E : Ev) (H : Hooks) (ih : RunTy) (os : List Orc) (ts : Nat) (P : PS) (c : Code) (κ : KX) (r : Result) (T : GT) (m i : Nat) : Out := match κ with
  | .base => .done P r T m i os ts
  | .ret c₁ k κ₁ => ih os ts P c₁ κ₁ (k r) T m i
  | .seg k κ₁ => match r with
    | .ok f => goX E H ih c κ₁ T m i (k f) os ts P
    | .error _ => .stop 52
  | .segA .. => .stop 55

noncomputable def putAll (T : GT) (m : Nat) : List (Nat × Obj) → GT
  | [] => T
  | (k, o) :: l => GT.ins 30 (putAll T m l) (m + k) o
/-- an object without its tokens and hashes -/
noncomputable def stripV : Value → Value
  | .int i _ => .int i 0
  | .str s _ => .str s 0
  | .float u _ => .float u 0
  | v => v
noncomputable def stripVs : List Value → List Value
  | [] => []
  | v :: l => stripV v :: stripVs l
noncomputable def stripEs : List DictEntry → List DictEntry
  | [] => []
  | ⟨_, k, v⟩ :: l => ⟨0, stripV k, stripV v⟩ :: stripEs l
noncomputable def stripD : Data → Data
  | .seq ⟨xs⟩ n => .seq ⟨stripVs xs⟩ n
  | .dict ⟨es⟩ n => .dict ⟨stripEs es⟩ n
  | d => d
noncomputable def stripO : Obj → Obj
  | ⟨c, d, x, s⟩ => ⟨c, d, stripD x, s⟩
noncomputable def stripQ : Option Obj → Option Obj
  | some o => some (stripO o)
  | none => none
/-- the arguments' addresses, by their tags, and what is asserted of them -/
noncomputable def argsAt (E : Ev) : List (Nat × Obj) → List (Addr × Obj)
  | [] => []
  | (t, o) :: l => (E.want t, o) :: argsAt E l
noncomputable def argsOkP (E : Ev) (T : GT) : List (Nat × Obj) → Prop
  | [] => True
  | (t, o) :: l => (t ≠ 0 ∧ lookT E T 0 t = some o) ∧ argsOkP E T l
noncomputable def allLt (m : Nat) : List (Nat × Obj) → Bool
  | [] => true
  | (k, _) :: l => match Nat.blt k m with
    | true => allLt m l
    | false => false
noncomputable def loadD (E : Ev) (ih : Ev → RunTy) (os : List Orc) (ts : Nat) (P : PS) (c : Code) (κ : KX) (a : Addr) (k : Obj → Sem Fin) (T : GT) (m i : Nat) : Out := match lookT E T a (tagN E a ts) with
  | some o => ih E os (tagR E ts) (note E P a (tagN E a ts)) c κ (k o) T m i
  | none => .stop 1
noncomputable def allocD (E : Ev) (ih : Ev → RunTy) (os : List Orc) (ts : Nat) (P : PS) (c : Code) (κ : KX) (o : Obj) (k : Addr → Sem Fin) (T : GT) (m i : Nat) : Out := match o.isFreed with
  | true => .stop 2
  | false => match Nat.blt m lidA with
    | true => match E.gap m with
      | true => .stop 4
      | false => ih E os ts P c κ (k (E.ad m)) (GT.ins 30 T m o) (m + 1) i
    | false => .stop 3
/-- the own object that a tag tells -/
noncomputable def ownOf (t : Nat) : Option Nat := match t with
  | 0 => none
  | t + 1 => match t % 2 with
    | 0 => some (t / 2)
    | _ => none
noncomputable def updateD (E : Ev) (ih : Ev → RunTy) (os : List Orc) (ts : Nat) (P : PS) (c : Code) (κ : KX) (a : Addr) (f : Obj → Obj) (k : Unit → Sem Fin) (T : GT) (m i : Nat) : Out := match ownOf (tagN E a ts) with
  | some j => match T.get j with
    | some o => match (f o).isFreed with
      | true => .stop 2
      | false => ih E os (tagR E ts) (note E P a (tagN E a ts)) c κ (k ()) (T.set j f) m i
    | none => .stop 3
  | none => .stop 6
noncomputable def givenD (E : Ev) (H : Hooks) (ih : Ev → RunTy) (os : List Orc) (ts : Nat) (P : PS) (c c' : Code) (κ : KX) (k : Result → Sem Fin) (T : GT) (m i : Nat) : Out := match os with
  | .given args v ι m' objs :: os => match Nat.blt (m + m') lidA with
    | true => match Nat.blt (E.dep + wK κ + wC c) H.lim with
      | true => match allLt m' objs with
        | true => ih E os ts (.and P (argsOkP E T args ∧ H.given (fun n => E.ad (m + n)) E.st E.t₀ (argsAt E args) c' i v ι m' objs)) c κ (k (.ok (.ret v))) (putAll T m objs) (m + m') ι
        | false => .stop 63
      | false => .stop 63
    | false => .stop 63
  | _ => .stop 61
noncomputable def callD (E : Ev) (den : Code → XT) (H : Hooks) (ih : Ev → RunTy) (os : List Orc) (ts : Nat) (P : PS) (c c' : Code) (κ : KX) (k : Result → Sem Fin) (T : GT) (m i : Nat) : Out := match H.leaf E c' T i os ts with
  | some o => match o.new with
    | none => ih E o.os o.ts (andO (notes E P o.q) o.A) c κ (k (.ok (.ret o.v))) o.T m o.i
    | some _ => match Nat.blt m lidA with
      | true => match E.gap m with
        | true => .stop 4
        | false => ih E o.os o.ts (andO (notes E P o.q) o.A) c κ (k (.ok (.ret (o.outV E m)))) (o.outT m) (m + 1) o.i
      | false => .stop 3
  | none => match H.givens c' with
    | true => givenD E H ih os ts P c c' κ k T m i
    | false => goX E H (ih E) c' (.ret c k κ) T m i (den c') os ts P
noncomputable def againD (E : Ev) (den : Code → XT) (qt : Code → Bool) (H : Hooks) (ih : Ev → RunTy) (os : List Orc) (ts : Nat) (P : PS) (κ : KX) (c' : Code) (T : GT) (m i : Nat) : Out := match H.turn E c' T i os ts with
  | some o => ih E o.os o.ts (andO (notes E P o.q) o.A) o.c κ (.pure (.again o.c)) o.T m o.i
  | none => match qt c' with
    | true => goX E H (ih E) c' κ T m i (den c') os ts P
    | false => .stop 5
noncomputable def finD (E : Ev) (den : Code → XT) (qt : Code → Bool) (H : Hooks) (ih : Ev → RunTy) (os : List Orc) (ts : Nat) (P : PS) (c : Code) (κ : KX) (fin : Fin) (T : GT) (m i : Nat) : Out := match fin with
  | .done f => retD E H (ih E) os ts P c κ (.ok f) T m i
  | .again c' => match κ with
    | .seg .. => .stop 53
    | .segA k κ => goX E H (ih E) c κ T m i (k c') os ts P
    | .base => againD E den qt H ih os ts P .base c' T m i
    | .ret c₁ k κ => againD E den qt H ih os ts P (.ret c₁ k κ) c' T m i
noncomputable def stepD (E : Ev) (den : Code → XT) (qt : Code → Bool) (H : Hooks) (ih : Ev → RunTy) (os : List Orc) (ts : Nat) (P : PS) (c : Code) (κ : KX) (t : Sem Fin) (T : GT) (m i : Nat) : Out := match t with
  | .pure fin => finD E den qt H ih os ts P c κ fin T m i
  | .raise e => retD E H (ih E) os ts P c κ (.error e) T m i
  | .rule _ k => ih E os ts P c κ (k ()) T m i
  | .at _ k => ih E os ts P c κ (k ()) T m i
  | .point _ k => ih E os ts P c κ (k ()) T m i
  | .ask k => ih E os ts P c κ (k E.st) T m i
  | .load a _ k => loadD E ih os ts P c κ a k T m i
  | .alloc o k => allocD E ih os ts P c κ o k T m i
  | .update a _ f k => updateD E ih os ts P c κ a f k T m i
  | .fresh k => ih E os ts P c κ (k (E.t₀ + i)) T m (i + 1)
  | .handled own k => match own with
    | false => ih E os ts P c κ (k none) T m i
    | true => .stop 7
  | .call c' hd _ _ k => match hd with
    | some _ => .stop 8
    | none => callD E den H ih os ts P c c' κ k T m i
  | .unsupported _ => .stop 99
  | .finish _ => .stop 99
  | .loadIfAlive .. => .stop 99
  | .register .. => .stop 99
  | .choose .. => .stop 99
  | .os .. => .stop 99
  | .newGen .. => .stop 99
  | .genState .. => .stop 99
  | .resume .. => .stop 99
  | .yield .. => .stop 99
  | .stack _ => .stop 99
  | .fork .. => .stop 99
  | .thread _ => .stop 99
  | .await .. => .stop 99
noncomputable def runD (den : Code → XT) (qt : Code → Bool) (H : Hooks) : Nat → Ev → RunTy
  | 0 => fun _ _ _ _ _ _ _ _ _ _ => .stop 40
  | n + 1 => fun E => stepD E den qt H (runD den qt H n)
/-- the tags' addresses, the last first -/
noncomputable def exps (E : Ev) : Nat → Nat → List (Addr × Nat) → List (Addr × Nat)
  | 0, _, acc => acc
  | n + 1, ts, acc => match Nat.beq ts 0 with
    | true => acc
    | false => match ts % 4096 with
      | 0 => exps E n (ts / 4096) acc
      | t + 1 => exps E n (ts / 4096) ((E.want (t + 1), t + 1) :: acc)
noncomputable def getAll (T : GT) : List Nat → List (Option Obj)
  | [] => []
  | k :: l => stripQ (T.get k) :: getAll T l
/-- an end: the facts asserted, the addresses, the result, the objects asked for -/
noncomputable def endOf (ks : List Nat) : Out → Option (Prop × List (Addr × Nat) × Result × Nat × Nat × List (Option Obj))
  | .done p r T m i _ _ => some (p.prop, p.accs, r, m, i, getAll T ks)
  | .stop _ => none
/-- the same without the count of tokens -/
noncomputable def end2 (ks : List Nat) : Out → Option (Prop × List (Addr × Nat) × Result × Nat × List (Option Obj))
  | .done p r T m _ _ _ => some (p.prop, p.accs, r, m, getAll T ks)
  | .stop _ => none
noncomputable def iOf : Out → Nat
  | .done _ _ _ _ i _ _ => i
  | .stop _ => 0
end Mine
namespace Mine
open PySem PySem.W PySem.W.X PySem.Calls PySem.Spec

structure RepM (E : Ev) (h₀ h : Heap) (T : GT) (m : Nat) : Prop where
  size : h.objs.size = E.ad m
  own : ∀ j o, T.get j = some o → j < m ∧ h.get? (E.ad j) = some o
  keep : ∀ b o, h₀.get? b = some o → h.get? b = some o

/-- what a run may rely on, without the stack -/
structure EvH (prog : Program) (w : World) (E : Ev) (h₀ : Heap) : Prop where
  size : h₀.objs.size = E.ad 0
  mono : ∀ i j, i < j → E.ad i < E.ad j
  step : ∀ j, E.gap j = false → E.ad (j + 1) = E.ad j + 1
  old : ∀ a o, E.old a = some o → h₀.get? a = some o
  args : ∀ k a o, E.args k = some (a, o) → h₀.get? a = some o
  st : E.st = ⟨prog, w.params⟩
  lim : h₀.NoLimit

structure EvOk (prog : Program) (w : World) (top : Addr → Option Obj) (E : Ev) (A : Around) (h₀ : Heap) : Prop extends EvH prog w E h₀ where
  top : ∀ a o, top a = some o → h₀.get? a = some o
  hand : A.handled = none
  dep : A.depth ≤ E.dep
  un : A.units ≤ E.dep

theorem blt_t {a b : Nat} (h : Nat.blt a b = true) : a < b := Nat.le_of_ble_eq_true h
theorem blt_f {a b : Nat} (h : Nat.blt a b = false) : b ≤ a := X.blt_false h
theorem mod2 (t : Nat) : t % 2 = 0 ∨ t % 2 = 1 := by lia

section
variable {prog : Program} {w : World} {E : Ev} {h₀ h : Heap} {T : GT} {m : Nat}
theorem RepM.look (O : EvH prog w E h₀) (D : RepM E h₀ h T m) {a : Addr} {t : Nat} {o : Obj} (e : lookT E T a t = some o) (ha : t ≠ 0 → a = E.want t) : h.get? a = some o := by
  cases t with
  | zero => exact D.keep a o (O.old a o e)
  | succ t =>
    have ha' := ha (Nat.succ_ne_zero t)
    unfold lookT at e
    unfold Ev.want at ha'
    rcases mod2 t with q | q
    · simp only [q] at e ha'
      rw [ha']
      exact (D.own _ _ e).2
    · simp only [q] at e ha'
      split at e
      · rename_i b ob hb
        cases e
        rw [hb] at ha'
        rw [ha']
        exact D.keep _ _ (O.args _ _ _ hb)
      · cases e
theorem RepM.start (O : EvH prog w E h₀) : RepM E h₀ h₀ .nil 0 := ⟨O.size, fun _ _ e => (nomatch e), fun _ _ e => e⟩
theorem RepM.alloc (O : EvH prog w E h₀) (D : RepM E h₀ h T m) {o : Obj} (hf : o.isFreed = false) (hm : m < 100000000) (hg : E.gap m = false) : RepM E h₀ (h.push o) (GT.ins 30 T m o) (m + 1) := by
  refine ⟨by rw [Heap.size_push, D.size, O.step m hg], fun j o' e => ?_, fun b o' e => Heap.get?_push_of_some _ (D.keep b o' e)⟩
  rw [GT.get_ins o 30 T m j (by lia)] at e
  by_cases hj : j = m
  · subst hj
    rw [if_pos rfl] at e
    cases e
    refine ⟨Nat.lt_succ_self _, ?_⟩
    rw [← D.size]; exact Heap.get?_push_size _ hf
  · rw [if_neg hj] at e
    have z := D.own j o' e
    exact ⟨Nat.lt_succ_of_lt z.1, Heap.get?_push_of_some _ z.2⟩
theorem RepM.lt (O : EvH prog w E h₀) {b : Addr} {o : Obj} (e : h₀.get? b = some o) (j : Nat) : b < E.ad j := by
  have h1 : b < E.ad 0 := O.size ▸ Heap.lt_size e
  rcases Nat.eq_zero_or_pos j with rfl | hj
  · exact h1
  · exact Nat.lt_trans h1 (O.mono 0 j hj)
theorem EvH.inj (O : EvH prog w E h₀) {i j : Nat} (e : E.ad i = E.ad j) : i = j := by
  rcases Nat.lt_trichotomy i j with q | q | q
  · exact absurd e (Nat.ne_of_lt (O.mono i j q))
  · exact q
  · exact absurd e.symm (Nat.ne_of_lt (O.mono j i q))
theorem RepM.update (O : EvH prog w E h₀) (D : RepM E h₀ h T m) {j : Nat} {o : Obj} {f : Obj → Obj} (e : T.get j = some o) (hf : (f o).isFreed = false) : RepM E h₀ (h.update (E.ad j) f) (T.set j f) m := by
  have z := D.own _ _ e
  have hs : Heap.SameBut (E.ad j) h (h.update (E.ad j) f) := Heap.SameBut.update ..
  refine ⟨by rw [hs.1, D.size], fun i o' e' => ?_, fun b o' e' => ?_⟩
  · rw [GT.get_set] at e'
    by_cases hi : i = j
    · subst hi
      rw [if_pos rfl, e] at e'
      cases e'
      refine ⟨z.1, ?_⟩
      first | exact Heap.get?_update_self f z.2 hf | exact Heap.get?_update_self _ z.2 hf
    · rw [if_neg hi] at e'
      have y := D.own i o' e'
      exact ⟨y.1, (hs.2 _ fun z => hi (O.inj z)).trans y.2⟩
  · exact (hs.2 b (Nat.ne_of_lt (RepM.lt O e' j))).trans (D.keep b o' e')
theorem putAll_get : ∀ (objs : List (Nat × Obj)) (T : GT) (m : Nat), (∀ p ∈ objs, m + p.1 < 1000000000) → ∀ j o, (putAll T m objs).get j = some o → (∃ k, (k, o) ∈ objs ∧ j = m + k) ∨ T.get j = some o
  | [], _, _, _, _, _, e => .inr e
  | (k, x) :: l, T, m, H, j, o, e => by
    show _ ∨ _
    have e' : (GT.ins 30 (putAll T m l) (m + k) x).get j = some o := e
    rw [GT.get_ins x 30 _ (m + k) j (by have := H (k, x) (.head _); simp only at this; lia)] at e'
    by_cases hj : j = m + k
    · rw [if_pos hj] at e'
      cases e'
      exact .inl ⟨k, .head _, hj⟩
    · rw [if_neg hj] at e'
      rcases putAll_get l T m (fun p hp => H p (.tail _ hp)) j o e' with ⟨k', hk, ej⟩ | y
      · exact .inl ⟨k', .tail _ hk, ej⟩
      · exact .inr y
/-- behind a call that made m' objects, of which some are known -/
theorem RepM.behind {h' : Heap} {objs : List (Nat × Obj)} {m' : Nat} (D : RepM E h₀ h T m) (hsz : h'.objs.size = E.ad (m + m')) (hk : ∀ b o, h.get? b = some o → h'.get? b = some o)
    (ho : ∀ p ∈ objs, p.1 < m' ∧ h'.get? (E.ad (m + p.1)) = some p.2) (hm : m + m' < 100000000) : RepM E h₀ h' (putAll T m objs) (m + m') := by
  refine ⟨hsz, fun j o e => ?_, fun b o e => hk _ _ (D.keep b o e)⟩
  rcases putAll_get objs T m (fun p hp => by have := (ho p hp).1; lia) j o e with ⟨k, hp, rfl⟩ | y
  · have z := ho _ hp
    exact ⟨Nat.add_lt_add_left z.1 m, z.2⟩
  · have z := D.own j o y
    exact ⟨Nat.lt_of_lt_of_le z.1 (Nat.le_add_right ..), hk _ _ z.2⟩
end
-- what is asserted
noncomputable def okO : Option Prop → Prop
  | none => True
  | some A => A
theorem andO_split {E : Ev} {P : PS} {A : Option Prop} (h : (andO P A).holds E) : P.holds E ∧ okO A := by
  cases A with
  | none => exact ⟨h, trivial⟩
  | some A => exact h
theorem note_split {E : Ev} {P : PS} {a : Addr} {t : Nat} (h : (note E P a t).holds E) : P.holds E ∧ (t ≠ 0 → a = E.want t) := by
  cases t with
  | zero =>
    refine ⟨?_, fun x => absurd rfl x⟩
    unfold note at h
    split at h
    · rename_i y; cases y
      split at h
      · exact h.1
      · exact h
    · rename_i y; cases y
  | succ t => exact h
noncomputable def allQ (E : Ev) (q : List (Addr × Nat)) : Prop := ∀ p ∈ q, p.2 ≠ 0 → p.1 = E.want p.2
theorem notes_split {E : Ev} : ∀ {q : List (Addr × Nat)} {P : PS}, (notes E P q).holds E → P.holds E ∧ allQ E q
  | [], P, h => ⟨h, fun p hp => by cases hp⟩
  | (a, t) :: l, P, h => by
    obtain ⟨h1, h2⟩ := notes_split (q := l) (P := note E P a t) h
    obtain ⟨h3, h4⟩ := note_split h1
    refine ⟨h3, fun p hp => ?_⟩
    rcases List.mem_cons.mp hp with rfl | hp
    · exact h4
    · exact h2 p hp
noncomputable def accsOk (E : Ev) (l : List (Addr × Nat)) : Prop := ∀ p ∈ l, p.2 ≠ 0 → p.1 = E.want p.2
theorem PS.holds_of {E : Ev} : ∀ {P : PS}, P.prop → accsOk E P.accs → P.holds E
  | .nil, _, _ => trivial
  | .and _ _, h, q => ⟨PS.holds_of h.1 q, h.2⟩
  | .eq _ a t, h, q => ⟨PS.holds_of h fun x hx => q x (.tail _ hx), q (a, t) (.head _)⟩
theorem exps_ok {E : Ev} : ∀ (n ts : Nat) (acc : List (Addr × Nat)), accsOk E acc → accsOk E (exps E n ts acc)
  | 0, _, _, h => h
  | n + 1, ts, acc, h => by
    unfold exps
    split
    · exact h
    · split
      · exact exps_ok n _ _ h
      · refine exps_ok n _ _ fun p hp => ?_
        rcases List.mem_cons.mp hp with rfl | hp
        · exact fun _ => rfl
        · exact h p hp

noncomputable def arK (A : Around) : KX → Around
  | .base => A
  | .ret c _ κ => (arK A κ).under c
  | .seg _ κ => arK A κ
  | .segA _ κ => arK A κ
theorem arK_hand (A : Around) (h : A.handled = none) : ∀ κ, (arK A κ).handled = none
  | .base => h
  | .ret _ _ κ => arK_hand A h κ
  | .seg _ κ => arK_hand A h κ
  | .segA _ κ => arK_hand A h κ
theorem frames_le (c : Code) : c.frames ≤ 3 := by
  unfold Code.frames
  split <;> first | lia | (split <;> lia)
theorem weight_le (c : Code) : c.weight ≤ wC c := by
  have hf := frames_le c
  cases c with
  | builtin id a =>
    show _ ≤ 2000
    unfold Code.weight claimMargin
    (repeat' split) <;> lia
  | _ =>
    show _ ≤ 5
    simp only [Code.weight, Code.isCreation, Code.isGuard, Code.isCaller]
    simp
    lia
theorem units_le (c : Code) : c.cUnits ≤ wC c := by
  have hf := frames_le c
  cases c with
  | builtin id a => show 1 + 3 * _ ≤ 2000; lia
  | call => show 1 ≤ 5; lia
  | _ =>
    show 3 * Code.frames _ ≤ 5
    unfold Code.frames
    simp
    split <;> lia
theorem arK_dep (A : Around) : ∀ κ, (arK A κ).depth ≤ A.depth + wK κ
  | .base => Nat.le_refl _
  | .ret c k κ => by
    show (arK A κ).depth + c.weight ≤ A.depth + (wK κ + wC c)
    have := arK_dep A κ; have := weight_le c; lia
  | .seg _ κ => arK_dep A κ
  | .segA _ κ => arK_dep A κ
theorem arK_un (A : Around) : ∀ κ, (arK A κ).units ≤ A.units + wK κ
  | .base => Nat.le_refl _
  | .ret c k κ => by
    show (arK A κ).units + c.cUnits ≤ A.units + (wK κ + wC c)
    have := arK_un A κ; have := units_le c; lia
  | .seg _ κ => arK_un A κ
  | .segA _ κ => arK_un A κ
end Mine
namespace Mine
open PySem PySem.W PySem.W.X PySem.Calls PySem.Spec
section
variable (prog : Program) (w : World)

noncomputable def onDone (X : Flow → Shared → Prop) : Fin → Shared → Prop
  | .done f => X f
  | .again _ => fun _ => False
noncomputable def onAgain (X : Code → Shared → Prop) : Fin → Shared → Prop
  | .done _ => fun _ => False
  | .again c => X c
noncomputable def never : Value → Shared → Prop := fun _ _ => False
noncomputable def wpXT (A : Around) (c : Code) (Q : Fin → Shared → Prop) (F : Value → Shared → Prop) : XT → Shared → Prop
  | .sem t => fun s => wpOwn (model prog w) A c t Q F s
  | .seg t k => fun s => wpOwn (model prog w) A c t (onDone fun f s' => wpXT A c Q F (k f) s') never s
  | .segA t k => fun s => wpOwn (model prog w) A c t (onAgain fun c' s' => wpXT A c Q F (k c') s') never s
  | .enter x => fun s => wpAny (model prog w) (A.under c) enterFrame (fun _ s' => wpXT A c Q F x s') (fun _ _ => False) s
  | .cmp op a b k => fun s => wpAny (model prog w) (A.under c) (compareOp op a b) (fun v s' => wpXT A c Q F (k v) s') (fun _ _ => False) s
  | .fact P x => fun s => P ∧ wpXT A c Q F x s

noncomputable def semK (A : Around) (R : Result → Shared → Prop) : KX → Code → (Fin → Shared → Prop) × (Value → Shared → Prop)
  | .base => fun _ => (postC prog w A R, postE R)
  | .ret c₁ k κ => fun _ => (postC prog w ((arK A κ).under c₁) (fun r s => wpOwn (model prog w) (arK A κ) c₁ (k r) (semK A R κ c₁).1 (semK A R κ c₁).2 s),
      postE (fun r s => wpOwn (model prog w) (arK A κ) c₁ (k r) (semK A R κ c₁).1 (semK A R κ c₁).2 s))
  | .seg k κ => fun c => (onDone fun f s => wpXT prog w (arK A κ) c (semK A R κ c).1 (semK A R κ c).2 (k f) s, never)
  | .segA k κ => fun c => (onAgain fun c' s => wpXT prog w (arK A κ) c (semK A R κ c).1 (semK A R κ c).2 (k c') s, never)

noncomputable def mean (A : Around) (R : Result → Shared → Prop) (κ : KX) (c : Code) (t : Sem Fin) (s : Shared) : Prop :=
  wpOwn (model prog w) (arK A κ) c t (semK prog w A R κ c).1 (semK prog w A R κ c).2 s


/-- what a leaf hook says -/
noncomputable def LeafSays (E : Ev) (c : Code) (T : GT) (i : Nat) (o : HOut) : Prop := okO o.A → allQ E o.q →
  ∀ (A : Around) (h₀ h : Heap) (m : Nat) (g : Array GenState) (d : Drawn) (ox : OsState) (R : Result → Shared → Prop), A.handled = none → EvH prog w E h₀ → RepM E h₀ h T m → (o.new ≠ none → m < 100000000 ∧ E.gap m = false) →
    (∀ h', RepM E h₀ h' (o.outT m) (o.outM m) → R (.ok (.ret (o.outV E m))) ⟨h', g, d, E.t₀ + o.i, ox⟩) → codeAny (model prog w) A c R ⟨h, g, d, E.t₀ + i, ox⟩
noncomputable def TurnSays (E : Ev) (c : Code) (T : GT) (i : Nat) (o : TOut) : Prop := okO o.A → allQ E o.q →
  ∀ (A : Around) (h₀ h : Heap) (m : Nat) (g : Array GenState) (d : Drawn) (ox : OsState) (R : Result → Shared → Prop), A.handled = none → EvH prog w E h₀ → RepM E h₀ h T m →
    (∀ h', RepM E h₀ h' o.T m → codeAny (model prog w) A o.c R ⟨h', g, d, E.t₀ + o.i, ox⟩) → c.quiet = true ∧ codeAny (model prog w) A c R ⟨h, g, d, E.t₀ + i, ox⟩
noncomputable def CmpSays (E : Ev) (T : GT) (op : CmpOp) (a b : Value) (o : COut) : Prop := okO o.A → allQ E o.q →
  ∀ (A : Around) (h₀ h : Heap) (m : Nat) (g : Array GenState) (d : Drawn) (tk : Nat) (ox : OsState) (Q : Value → Shared → Prop), A.units + 64 < cLine → EvH prog w E h₀ → RepM E h₀ h T m →
    Q o.v ⟨h, g, d, tk, ox⟩ → wpAny (model prog w) A (compareOp op a b) Q (fun _ _ => False) ⟨h, g, d, tk, ox⟩
/-- a call by its contract: ad tells where its objects lie -/
noncomputable def GivenOk (top : Addr → Option Obj) (lim : Nat) (ad : Nat → Addr) (st : Setting) (t₀ : Nat) (args : List (Addr × Obj)) (c : Code) (i : Nat) (v : Value) (ι m : Nat) (objs : List (Nat × Obj)) : Prop :=
  st = ⟨prog, w.params⟩ → ∀ (A : Around) (h : Heap) (g : Array GenState) (d : Drawn) (ox : OsState) (R : Result → Shared → Prop), A.handled = none → A.depth ≤ lim → A.units ≤ lim → h.NoLimit → h.objs.size = ad 0 → (∀ a o, top a = some o → h.get? a = some o) →
    (∀ p ∈ args, h.get? p.1 = some p.2) → (∀ h' : Heap, h'.objs.size = ad m → (∀ b o, h.get? b = some o → h'.get? b = some o) → (∀ p ∈ objs, h'.get? (ad p.1) = some p.2) → R (.ok (.ret v)) ⟨h', g, d, t₀ + ι, ox⟩) →
    codeAny (model prog w) A c R ⟨h, g, d, t₀ + i, ox⟩
/-- what is asked of the trees and the hooks -/
structure HooksOk (top : Addr → Option Obj) (den : Code → XT) (qt : Code → Bool) (H : Hooks) : Prop where
  den : ∀ (A : Around) (c : Code) (R : Result → Shared → Prop) (s : Shared), wpXT prog w A c (postC prog w A R) (postE R) (den c) s → codeAny (model prog w) A c R s
  qt : ∀ c, qt c = true → c.quiet = true
  leaf : ∀ E c T i os ts o, H.leaf E c T i os ts = some o → LeafSays prog w E c T i o
  turn : ∀ E c T i os ts o, H.turn E c T i os ts = some o → TurnSays prog w E c T i o
  cmp : ∀ E T op a b os ts o, H.cmp E T op a b os ts = some o → CmpSays prog w E T op a b o
  given : ∀ ad st t₀ args c i v ι m objs, H.given ad st t₀ args c i v ι m objs → GivenOk prog w top H.lim ad st t₀ args c i v ι m objs
end

section
variable {prog : Program} {w : World} {top : Addr → Option Obj} {den : Code → XT} {qt : Code → Bool} {H : Hooks}

/-- what a run that came through says of its start -/
noncomputable def Says (prog : Program) (w : World) (top : Addr → Option Obj) (E : Ev) (P : PS) (T : GT) (m i : Nat) (o : Out) (X : Around → (Result → Shared → Prop) → Shared → Prop) : Prop :=
  ∀ P' r T' m' i' os' ts', o = .done P' r T' m' i' os' ts' → P'.holds E → P.holds E ∧ ∀ (A : Around) (R : Result → Shared → Prop) (h₀ h : Heap) g d ox, EvOk prog w top E A h₀ → RepM E h₀ h T m →
    (∀ h', RepM E h₀ h' T' m' → R r ⟨h', g, d, E.t₀ + i', ox⟩) → X A R ⟨h, g, d, E.t₀ + i, ox⟩
noncomputable def IhOk (prog : Program) (w : World) (top : Addr → Option Obj) (E : Ev) (ih : RunTy) : Prop :=
  ∀ os ts P c κ t T m i, Says prog w top E P T m i (ih os ts P c κ t T m i) (fun A R s => mean prog w A R κ c t s)

theorem stop_ok {E : Ev} {P : PS} {T : GT} {m i n : Nat} {X : Around → (Result → Shared → Prop) → Shared → Prop} : Says prog w top E P T m i (.stop n) X := by
  intro P' r T' m' i' os' ts' e; cases e
theorem dep_ok {E : Ev} {A : Around} {h₀ : Heap} (O : EvOk prog w top E A h₀) (κ : KX) (c : Code) {n : Nat} (h : E.dep + wK κ + wC c < n) : ((arK A κ).under c).depth < n ∧ ((arK A κ).under c).units < n := by
  have h1 := arK_dep A κ
  have h2 := weight_le c
  have h3 := O.dep
  have k1 := arK_un A κ
  have k2 := units_le c
  have k3 := O.un
  show (arK A κ).depth + c.weight < n ∧ (arK A κ).units + c.cUnits < n
  lia

variable (HO : HooksOk prog w top den qt H)
include HO
theorem goX_ok {E : Ev} {ih : RunTy} (IH : IhOk prog w top E ih) (c : Code) (κ : KX) (T : GT) (m i : Nat) : ∀ (x : XT) (os : List Orc) (ts : Nat) (P : PS),
    Says prog w top E P T m i (goX E H ih c κ T m i x os ts P) (fun A R s => wpXT prog w (arK A κ) c (semK prog w A R κ c).1 (semK prog w A R κ c).2 x s) := by
  intro x
  induction x with
  | sem t => intro os ts P; exact IH os ts P c κ t T m i
  | seg t k _ => intro os ts P; exact IH os ts P c (.seg k κ) t T m i
  | segA t k _ => intro os ts P; exact IH os ts P c (.segA k κ) t T m i
  | enter x ihx =>
    intro os ts P
    cases q : Nat.blt (E.dep + wK κ + wC c) 900 with
    | false =>
      have : goX E H ih c κ T m i (.enter x) os ts P = .stop 54 := by simp only [goX, q]
      rw [this]; exact stop_ok
    | true =>
      have : goX E H ih c κ T m i (.enter x) os ts P = goX E H ih c κ T m i x os ts P := by simp only [goX, q]
      rw [this]
      intro P' r T' m' i' os' ts' e hP
      obtain ⟨hp, K⟩ := ihx os ts P P' r T' m' i' os' ts' e hP
      refine ⟨hp, fun A R h₀ h g d ox O D hR => ?_⟩
      refine wpAny_enterFrame (O.lim.keeps D.keep) ?_ (K A R h₀ h g d ox O D hR)
      have := (dep_ok O κ c (blt_t q)).1
      have h5 : recursionLimit = 1000 := rfl
      show ((arK A κ).under c).depth < recursionLimit
      lia
  | fact A x ihx =>
    intro os ts P P' r T' m' i' os' ts' e hP
    obtain ⟨hp, K⟩ := ihx os ts (.and P A) P' r T' m' i' os' ts' e hP
    exact ⟨hp.1, fun A' R h₀ h g d ox O D hR => ⟨hp.2, K A' R h₀ h g d ox O D hR⟩⟩
  | cmp op a b k ihk =>
    intro os ts P
    cases q : Nat.blt (E.dep + wK κ + wC c) 900 with
    | false =>
      have : goX E H ih c κ T m i (.cmp op a b k) os ts P = .stop 54 := by simp only [goX, q]
      rw [this]; exact stop_ok
    | true =>
      cases y : H.cmp E T op a b os ts with
      | none =>
        have : goX E H ih c κ T m i (.cmp op a b k) os ts P = .stop 51 := by simp only [goX, q, y]
        rw [this]; exact stop_ok
      | some o =>
        have : goX E H ih c κ T m i (.cmp op a b k) os ts P = goX E H ih c κ T m i (k o.v) o.os o.ts (andO (notes E P o.q) o.A) := by simp only [goX, q, y]
        rw [this]
        intro P' r T' m' i' os' ts' e hP
        obtain ⟨hp, K⟩ := ihk o.v o.os o.ts _ P' r T' m' i' os' ts' e hP
        obtain ⟨hp, hq⟩ := andO_split hp
        obtain ⟨hp, hq2⟩ := notes_split hp
        refine ⟨hp, fun A R h₀ h g d ox O D hR => ?_⟩
        refine HO.cmp E T op a b os ts o y hq hq2 _ h₀ h m g d _ ox _ ?_ O.toEvH D (K A R h₀ h g d ox O D hR)
        have := (dep_ok O κ c (blt_t q)).2
        have h5 : cLine = 9900 := rfl
        lia

omit HO in
theorem base_ok {E : Ev} {os : List Orc} {ts : Nat} {P : PS} {r : Result} {T : GT} {m i : Nat} : Says prog w top E P T m i (.done P r T m i os ts) (fun _ R s => R r s) := by
  intro P' r' T' m' i' os' ts' e hP
  cases e
  exact ⟨hP, fun A R h₀ h g d ox O D hR => hR h D⟩
theorem ret_ok {E : Ev} {ih : RunTy} (IH : IhOk prog w top E ih) (os : List Orc) (ts : Nat) (P : PS) (c : Code) (κ : KX) (f : Flow) (T : GT) (m i : Nat) :
    Says prog w top E P T m i (retD E H ih os ts P c κ (.ok f) T m i) (fun A R s => (semK prog w A R κ c).1 (.done f) s) := by
  cases κ with
  | base => exact base_ok (os := os) (ts := ts)
  | ret c₁ k κ₁ => exact IH os ts P c₁ κ₁ (k (.ok f)) T m i
  | seg k κ₁ => exact goX_ok HO IH c κ₁ T m i (k f) os ts P
  | segA => exact stop_ok
theorem err_ok {E : Ev} {ih : RunTy} (IH : IhOk prog w top E ih) (os : List Orc) (ts : Nat) (P : PS) (c : Code) (κ : KX) (v : Value) (T : GT) (m i : Nat) :
    Says prog w top E P T m i (retD E H ih os ts P c κ (.error v) T m i) (fun A R s => (semK prog w A R κ c).2 v s) := by
  cases κ with
  | base => exact base_ok (os := os) (ts := ts)
  | ret c₁ k κ₁ => exact IH os ts P c₁ κ₁ (k (.error v)) T m i
  | seg k κ₁ => exact stop_ok
  | segA => exact stop_ok
omit HO in
theorem Says.mono {E : Ev} {P : PS} {T : GT} {m i : Nat} {o : Out} {X Y : Around → (Result → Shared → Prop) → Shared → Prop} (S : Says prog w top E P T m i o X) (h : ∀ A R s, A.handled = none → X A R s → Y A R s) : Says prog w top E P T m i o Y :=
  fun P' r T' m' i' os' ts' e hP => let ⟨a, b⟩ := S P' r T' m' i' os' ts' e hP; ⟨a, fun A R h₀ hh g d ox O D hR => h A R _ O.hand (b A R h₀ hh g d ox O D hR)⟩
/-- a call that is run -/
theorem call_ok {E : Ev} {ih : RunTy} (IH : IhOk prog w top E ih) (os : List Orc) (ts : Nat) (P : PS) (c c' : Code) (κ : KX) (g : Bool) (l : List Value) (k : Result → Sem Fin) (T : GT) (m i : Nat) :
    Says prog w top E P T m i (goX E H ih c' (.ret c k κ) T m i (den c') os ts P) (fun A R s => mean prog w A R κ c (.call c' none g l k) s) := by
  refine (goX_ok HO IH c' (.ret c k κ) T m i (den c') os ts P).mono fun A R s _ z => ?_
  exact y_call _ _ _ _ _ _ _ _ _ _ _ _ _ (by intro q; cases q) (HO.den _ _ _ _ z)
theorem again_ok {E : Ev} {ih : RunTy} (IH : IhOk prog w top E ih) (os : List Orc) (ts : Nat) (P : PS) (c c' : Code) (κ : KX) (hq : qt c' = true) (h1 : ∀ k κ', κ ≠ .seg k κ') (h2 : ∀ k κ', κ ≠ .segA k κ') (T : GT) (m i : Nat) :
    Says prog w top E P T m i (goX E H ih c' κ T m i (den c') os ts P) (fun A R s => mean prog w A R κ c (.pure (.again c')) s) := by
  refine (goX_ok HO IH c' κ T m i (den c') os ts P).mono fun A R s _ z => ?_
  refine y_pure _ _ _ _ _ _ _ _ _ ?_
  cases κ with
  | base => exact y_again _ _ _ _ _ _ (HO.qt _ hq) (HO.den _ _ _ _ z)
  | ret c₁ k κ₁ => exact y_again _ _ _ _ _ _ (HO.qt _ hq) (HO.den _ _ _ _ z)
  | seg k κ₁ => exact absurd rfl (h1 k κ₁)
  | segA k κ₁ => exact absurd rfl (h2 k κ₁)
theorem turn_ok {E : Ev} {ih : RunTy} (IH : IhOk prog w top E ih) (os : List Orc) (ts : Nat) (P : PS) (c c' : Code) (o : TOut) (κ : KX) (h1 : ∀ k κ', κ ≠ .seg k κ') (h2 : ∀ k κ', κ ≠ .segA k κ') (T : GT) (m i : Nat)
    (y : H.turn E c' T i os ts = some o) :
    Says prog w top E P T m i (ih o.os o.ts (andO (notes E P o.q) o.A) o.c κ (.pure (.again o.c)) o.T m o.i) (fun A R s => mean prog w A R κ c (.pure (.again c')) s) := by
  intro P' r T' m' i' os' ts' e hP
  obtain ⟨hp, K⟩ := IH _ _ _ o.c κ (.pure (.again o.c)) o.T m o.i P' r T' m' i' os' ts' e hP
  obtain ⟨hp, hq⟩ := andO_split hp
  obtain ⟨hp, hq2⟩ := notes_split hp
  refine ⟨hp, fun A R h₀ h g d ox O D hR => ?_⟩
  intro Γ p hc hΓ
  show (semK prog w A R κ c).1 (.again c') _
  have B : (Γ.goto o.c).Below (arK A κ) := hΓ.goto o.c
  cases κ with
  | base => exact HO.turn E c' T i os ts o y hq hq2 A h₀ h m g d ox R O.hand O.toEvH D fun h' D' => (K A R h₀ h' g d ox O D' hR (Γ.goto o.c) p rfl B).2
  | ret c₁ k κ₁ => exact HO.turn E c' T i os ts o y hq hq2 _ h₀ h m g d ox _ (arK_hand A O.hand κ₁) O.toEvH D fun h' D' => (K A R h₀ h' g d ox O D' hR (Γ.goto o.c) p rfl B).2
  | seg k κ₁ => exact absurd rfl (h1 k κ₁)
  | segA k κ₁ => exact absurd rfl (h2 k κ₁)
theorem leaf_ok {E : Ev} {ih : RunTy} (IH : IhOk prog w top E ih) (os : List Orc) (ts : Nat) (P : PS) (c c' : Code) (κ : KX) (g₀ : Bool) (l : List Value) (k : Result → Sem Fin) (T : GT) (m i : Nat) (o : HOut)
    (y : H.leaf E c' T i os ts = some o) (hm : o.new ≠ none → m < 100000000 ∧ E.gap m = false) :
    Says prog w top E P T m i (ih o.os o.ts (andO (notes E P o.q) o.A) c κ (k (.ok (.ret (o.outV E m)))) (o.outT m) (o.outM m) o.i) (fun A R s => mean prog w A R κ c (.call c' none g₀ l k) s) := by
  intro P' r T' m' i' os' ts' e hP
  obtain ⟨hp, K⟩ := IH _ _ _ _ _ _ _ _ _ P' r T' m' i' os' ts' e hP
  obtain ⟨hp, hq⟩ := andO_split hp
  obtain ⟨hp, hq2⟩ := notes_split hp
  refine ⟨hp, fun A R h₀ h g d ox O D hR => ?_⟩
  refine y_call _ _ _ _ _ _ _ _ _ _ _ _ _ (by intro q; cases q) ?_
  refine HO.leaf E c' T i os ts o y hq hq2 _ h₀ h m g d ox _ ?_ O.toEvH D hm fun h' D' => K A R h₀ h' g d ox O D' hR
  exact arK_hand A O.hand κ
end
end Mine
namespace Mine
open PySem PySem.W PySem.W.X PySem.Calls PySem.Spec
theorem allLt_mem {m : Nat} : ∀ {objs : List (Nat × Obj)}, allLt m objs = true → ∀ p ∈ objs, p.1 < m
  | [], _, p, hp => by cases hp
  | (k, o) :: l, h, p, hp => by
    have h' : (match Nat.blt k m with | true => allLt m l | false => false) = true := h
    cases q : Nat.blt k m with
    | false => rw [q] at h'; cases h'
    | true =>
      rw [q] at h'
      rcases List.mem_cons.mp hp with rfl | hp
      · exact blt_t q
      · exact allLt_mem h' p hp
section
variable {prog : Program} {w : World} {top : Addr → Option Obj} {den : Code → XT} {qt : Code → Bool} {H : Hooks}
/-- an argument told by its tag stands where the tag says, whatever address was looked at -/
theorem lookT_any {E : Ev} {T : GT} {a b : Addr} {t : Nat} (ht : t ≠ 0) : lookT E T a t = lookT E T b t := by
  cases t with
  | zero => exact absurd rfl ht
  | succ t => rfl
theorem argsOkP_mem {E : Ev} {h₀ h : Heap} {T : GT} {m : Nat} (O : EvH prog w E h₀) (D : RepM E h₀ h T m) : ∀ {args : List (Nat × Obj)}, argsOkP E T args → ∀ p ∈ argsAt E args, h.get? p.1 = some p.2
  | [], _, p, hp => by cases hp
  | (t, o) :: l, H, p, hp => by
    rcases List.mem_cons.mp hp with rfl | hp
    · exact D.look O (a := E.want t) (t := t) ((lookT_any H.1.1).trans H.1.2) fun _ => rfl
    · exact argsOkP_mem O D H.2 p hp
variable (HO : HooksOk prog w top den qt H)
include HO
theorem given_ok {E : Ev} {ih : RunTy} (IH : IhOk prog w top E ih) (os : List Orc) (ts : Nat) (P : PS) (c c' : Code) (κ : KX) (g₀ : Bool) (l : List Value) (k : Result → Sem Fin) (T : GT) (m i : Nat)
    (args : List (Nat × Obj)) (v : Value) (ι m' : Nat) (objs : List (Nat × Obj)) (hm : m + m' < 100000000) (hd : E.dep + wK κ + wC c < H.lim) (hl : allLt m' objs = true) :
    Says prog w top E P T m i (ih os ts (.and P (argsOkP E T args ∧ H.given (fun n => E.ad (m + n)) E.st E.t₀ (argsAt E args) c' i v ι m' objs)) c κ (k (.ok (.ret v))) (putAll T m objs) (m + m') ι)
      (fun A R s => mean prog w A R κ c (.call c' none g₀ l k) s) := by
  intro P' r T' m₂ i' os' ts' e hP
  obtain ⟨⟨hp, ha, hg⟩, K⟩ := IH _ _ _ _ _ _ _ _ _ P' r T' m₂ i' os' ts' e hP
  refine ⟨hp, fun A R h₀ h g d ox O D hR => ?_⟩
  refine y_call _ _ _ _ _ _ _ _ _ _ _ _ _ (by intro q; cases q) ?_
  obtain ⟨hdep, hun⟩ := dep_ok O κ c hd
  refine HO.given _ _ _ _ _ _ _ _ _ _ hg O.st _ h g d ox _ (arK_hand A O.hand κ) (Nat.le_of_lt hdep) (Nat.le_of_lt hun) (O.lim.keeps D.keep) D.size (fun a o e => D.keep a o (O.top a o e)) (argsOkP_mem O.toEvH D ha) fun h' hz hk ho => ?_
  exact K A R h₀ h' g d ox O (D.behind hz hk (fun p hp => ⟨allLt_mem hl p hp, ho p hp⟩) hm) hR
theorem pure_ok {E : Ev} {ih : Ev → RunTy} (IH : ∀ E, IhOk prog w top E (ih E)) (os : List Orc) (ts : Nat) (P : PS) (c : Code) (κ : KX) (fin : Fin) (T : GT) (m i : Nat) :
    Says prog w top E P T m i (finD E den qt H ih os ts P c κ fin T m i) (fun A R s => mean prog w A R κ c (.pure fin) s) := by
  cases fin with
  | done f => exact (ret_ok HO (IH E) os ts P c κ f T m i).mono fun A R s _ z => y_pure _ _ _ _ _ _ _ _ _ z
  | again c' =>
    have main : (∀ k κ', κ ≠ .seg k κ') → (∀ k κ', κ ≠ .segA k κ') → Says prog w top E P T m i (againD E den qt H ih os ts P κ c' T m i) (fun A R s => mean prog w A R κ c (.pure (.again c')) s) := by
      intro h1 h2
      unfold againD
      cases y : H.turn E c' T i os ts with
      | some o => exact turn_ok HO (IH E) os ts P c c' o κ h1 h2 T m i y
      | none =>
        cases q : qt c' with
        | true => exact again_ok HO (IH E) os ts P c c' κ q h1 h2 T m i
        | false => exact stop_ok
    cases κ with
    | base => exact main (fun _ _ e => by cases e) (fun _ _ e => by cases e)
    | ret c₁ k κ₁ => exact main (fun _ _ e => by cases e) (fun _ _ e => by cases e)
    | seg k κ₁ => exact stop_ok
    | segA k κ₁ => exact (goX_ok HO (IH E) c κ₁ T m i (k c') os ts P).mono fun A R s _ z => y_pure _ _ _ _ _ _ _ _ _ z
theorem callN_ok {E : Ev} {ih : Ev → RunTy} (IH : ∀ E, IhOk prog w top E (ih E)) (os : List Orc) (ts : Nat) (P : PS) (c c' : Code) (κ : KX) (g₀ : Bool) (l : List Value) (k : Result → Sem Fin) (T : GT) (m i : Nat) :
    Says prog w top E P T m i (callD E den H ih os ts P c c' κ k T m i) (fun A R s => mean prog w A R κ c (.call c' none g₀ l k) s) := by
  unfold callD
  cases y : H.leaf E c' T i os ts with
  | some o =>
    dsimp only
    cases yn : o.new with
    | none =>
      have h := leaf_ok HO (IH E) os ts P c c' κ g₀ l k T m i o y fun x => absurd yn x
      have e1 : o.outV E m = o.v := by unfold HOut.outV; rw [yn]
      have e2 : o.outT m = o.T := by unfold HOut.outT; rw [yn]
      have e3 : o.outM m = m := by unfold HOut.outM; rw [yn]
      rw [e1, e2, e3] at h
      exact h
    | some z =>
      dsimp only
      cases q : Nat.blt m lidA with
      | false => exact stop_ok
      | true =>
        dsimp only
        cases q2 : E.gap m with
        | true => exact stop_ok
        | false =>
          have h := leaf_ok HO (IH E) os ts P c c' κ g₀ l k T m i o y fun _ => ⟨blt_t q, q2⟩
          have e3 : o.outM m = m + 1 := by unfold HOut.outM; rw [yn]
          rw [e3] at h
          exact h
  | none =>
    dsimp only
    cases j : H.givens c' with
    | false => exact call_ok HO (IH E) os ts P c c' κ g₀ l k T m i
    | true =>
      show Says prog w top E P T m i (givenD E H ih os ts P c c' κ k T m i) _
      unfold givenD
      cases os with
      | nil => exact stop_ok
      | cons o os =>
        cases o with
        | bool => exact stop_ok
        | int => exact stop_ok
        | flt => exact stop_ok
        | val => exact stop_ok
        | item => exact stop_ok
        | texts => exact stop_ok
        | given args v ι m' objs =>
          dsimp only
          cases q2 : Nat.blt (m + m') lidA with
          | false => exact stop_ok
          | true =>
            cases q3 : Nat.blt (E.dep + wK κ + wC c) H.lim with
            | false => exact stop_ok
            | true =>
              cases q4 : allLt m' objs with
              | false => exact stop_ok
              | true => exact given_ok HO (IH E) os ts P c c' κ g₀ l k T m i args v ι m' objs (blt_t q2) (blt_t q3) q4
omit HO in
theorem load_ok {E : Ev} {ih : Ev → RunTy} (IH : ∀ E, IhOk prog w top E (ih E)) (os : List Orc) (ts : Nat) (P : PS) (c : Code) (κ : KX) (a : Addr) (q : Option Value) (k : Obj → Sem Fin) (T : GT) (m i : Nat) :
    Says prog w top E P T m i (loadD E ih os ts P c κ a k T m i) (fun A R s => mean prog w A R κ c (.load a q k) s) := by
  unfold loadD
  cases y : lookT E T a (tagN E a ts) with
  | none => exact stop_ok
  | some o =>
    intro P' r T' m' i' os' ts' e hP
    obtain ⟨hp, K⟩ := IH E _ _ _ c κ (k o) T m i P' r T' m' i' os' ts' e hP
    obtain ⟨hp, ht⟩ := note_split hp
    exact ⟨hp, fun A R h₀ h g d ox O D hR => y_load _ _ _ _ _ _ _ _ _ _ _ _ _ _ _ _ (D.look O.toEvH y ht) (K A R h₀ h g d ox O D hR)⟩
omit HO in
theorem alloc_ok {E : Ev} {ih : Ev → RunTy} (IH : ∀ E, IhOk prog w top E (ih E)) (os : List Orc) (ts : Nat) (P : PS) (c : Code) (κ : KX) (o : Obj) (k : Addr → Sem Fin) (T : GT) (m i : Nat) :
    Says prog w top E P T m i (allocD E ih os ts P c κ o k T m i) (fun A R s => mean prog w A R κ c (.alloc o k) s) := by
  unfold allocD
  cases y : o.isFreed with
  | true => exact stop_ok
  | false =>
    dsimp only
    cases q : Nat.blt m lidA with
    | false => exact stop_ok
    | true =>
      dsimp only
      cases q2 : E.gap m with
      | true => exact stop_ok
      | false =>
        dsimp only
        intro P' r T' m' i' os' ts' e hP
        obtain ⟨hp, K⟩ := IH E _ _ _ c κ (k (E.ad m)) _ _ i P' r T' m' i' os' ts' e hP
        refine ⟨hp, fun A R h₀ h g d ox O D hR => ?_⟩
        have z := K A R h₀ (h.push o) g d ox O (D.alloc O.toEvH y (blt_t q) q2) hR
        rw [← D.size] at z
        exact wpOwn_bind (m := alloc o) (f := k) (wpOwn_of_wpAny (wpAny_alloc z))
omit HO in
theorem ownOf_is {E : Ev} {t j : Nat} (h : ownOf t = some j) : t ≠ 0 ∧ E.want t = E.ad j := by
  cases t with
  | zero => cases h
  | succ t =>
    refine ⟨Nat.succ_ne_zero t, ?_⟩
    unfold ownOf at h
    unfold Ev.want
    rcases mod2 t with q | q
    · simp only [q] at h ⊢
      cases h; rfl
    · simp only [q] at h
      cases h
omit HO in
theorem update_ok {E : Ev} {ih : Ev → RunTy} (IH : ∀ E, IhOk prog w top E (ih E)) (os : List Orc) (ts : Nat) (P : PS) (c : Code) (κ : KX) (a : Addr) (q : Option Value) (f : Obj → Obj) (k : Unit → Sem Fin) (T : GT) (m i : Nat) :
    Says prog w top E P T m i (updateD E ih os ts P c κ a f k T m i) (fun A R s => mean prog w A R κ c (.update a q f k) s) := by
  unfold updateD
  cases y : ownOf (tagN E a ts) with
  | none => exact stop_ok
  | some j =>
    dsimp only
    cases y2 : T.get j with
    | none => exact stop_ok
    | some o =>
      dsimp only
      cases y3 : (f o).isFreed with
      | true => exact stop_ok
      | false =>
        dsimp only
        intro P' r T' m' i' os' ts' e hP
        obtain ⟨hp, K⟩ := IH E _ _ _ c κ (k ()) _ _ i P' r T' m' i' os' ts' e hP
        obtain ⟨hp, ht⟩ := note_split hp
        refine ⟨hp, fun A R h₀ h g d ox O D hR => ?_⟩
        have ho := (D.own _ _ y2).2
        have z := K A R h₀ _ g d ox O (D.update O.toEvH y2 y3) hR
        obtain ⟨hn, hw⟩ := ownOf_is (E := E) y
        have ha : a = E.ad j := (ht hn).trans hw
        rw [← ha] at ho z
        exact wpOwn_bind (m := updatePart a q f) (f := k) (wpOwn_of_wpAny (wpAny_updatePart ho z))
theorem step_ok {E : Ev} {ih : Ev → RunTy} (IH : ∀ E, IhOk prog w top E (ih E)) (os : List Orc) (ts : Nat) (P : PS) (c : Code) (κ : KX) (t : Sem Fin) (T : GT) (m i : Nat) :
    Says prog w top E P T m i (stepD E den qt H ih os ts P c κ t T m i) (fun A R s => mean prog w A R κ c t s) := by
  cases t with
  | pure fin => exact pure_ok HO IH os ts P c κ fin T m i
  | raise e => exact (err_ok HO (IH E) os ts P c κ e T m i).mono fun A R s _ z => y_raise _ _ _ _ _ _ _ _ _ z
  | rule tag k => exact (IH E os ts P c κ (k ()) T m i).mono fun A R s _ z => y_skim _ _ _ _ _ _ _ _ _ 1 z
  | «at» q k => exact (IH E os ts P c κ (k ()) T m i).mono fun A R s _ z => y_skim _ _ _ _ _ _ _ _ _ 1 z
  | point l k => exact (IH E os ts P c κ (k ()) T m i).mono fun A R s _ z => y_skim _ _ _ _ _ _ _ _ _ 1 z
  | ask k =>
    intro P' r T' m' i' os' ts' e hP
    obtain ⟨hp, K⟩ := IH E os ts P c κ (k E.st) T m i P' r T' m' i' os' ts' e hP
    refine ⟨hp, fun A R h₀ h g d ox O D hR => ?_⟩
    have z := K A R h₀ h g d ox O D hR
    rw [O.st] at z
    exact y_skim _ _ _ _ _ _ _ _ _ 1 z
  | load a q k => exact load_ok IH os ts P c κ a q k T m i
  | alloc o k => exact alloc_ok IH os ts P c κ o k T m i
  | update a q f k => exact update_ok IH os ts P c κ a q f k T m i
  | fresh k =>
    intro P' r T' m' i' os' ts' e hP
    obtain ⟨hp, K⟩ := IH E os ts P c κ (k (E.t₀ + i)) T m (i + 1) P' r T' m' i' os' ts' e hP
    exact ⟨hp, fun A R h₀ h g d ox O D hR => y_fresh _ _ _ _ _ _ _ _ _ _ _ _ _ (K A R h₀ h g d ox O D hR)⟩
  | handled own k =>
    cases own with
    | true => exact stop_ok
    | false =>
      exact (IH E os ts P c κ (k none) T m i).mono fun A R s hh z => y_handled _ _ _ _ _ _ _ _ _ (by rw [arK_hand A hh κ]; exact z)
  | call c' hd g₀ l k =>
    cases hd with
    | some v => exact stop_ok
    | none => exact callN_ok HO IH os ts P c c' κ g₀ l k T m i
  | unsupported => exact stop_ok
  | finish => exact stop_ok
  | loadIfAlive => exact stop_ok
  | register => exact stop_ok
  | choose => exact stop_ok
  | os => exact stop_ok
  | newGen => exact stop_ok
  | genState => exact stop_ok
  | resume => exact stop_ok
  | yield => exact stop_ok
  | stack => exact stop_ok
  | fork => exact stop_ok
  | thread => exact stop_ok
  | await => exact stop_ok
theorem run_ok : ∀ (n : Nat) (E : Ev), IhOk prog w top E (runD den qt H n E)
  | 0, _ => fun _ _ _ _ _ _ _ _ _ => stop_ok
  | n + 1, _ => fun os ts P c κ t T m i => step_ok HO (run_ok n) os ts P c κ t T m i
/-- a code run from the base -/
theorem code_ok (n : Nat) (E : Ev) (c : Code) (os : List Orc) (ts i : Nat) {P : PS} {r : Result} {T : GT} {m' i' : Nat} {os' : List Orc} {ts' : Nat} (e : goX E H (runD den qt H n E) c .base .nil 0 i (den c) os ts .nil = .done P r T m' i' os' ts') (hP : P.holds E)
    (A : Around) (R : Result → Shared → Prop) (h : Heap) (g : Array GenState) (d : Drawn) (ox : OsState) (O : EvOk prog w top E A h) (hR : ∀ h', RepM E h h' T m' → R r ⟨h', g, d, E.t₀ + i', ox⟩) :
    codeAny (model prog w) A c R ⟨h, g, d, E.t₀ + i, ox⟩ :=
  HO.den A c R _ ((goX_ok HO (run_ok HO n E) c .base .nil 0 i (den c) os ts .nil P r T m' i' os' ts' e hP).2 A R h h g d ox O (RepM.start O.toEvH) hR)
/-- the same, by what is read off the end -/
theorem end_ok (n : Nat) (E : Ev) (c : Code) (os : List Orc) (ts i : Nat) (ks : List Nat) {P : Prop} {q : List (Addr × Nat)} {r : Result} {m' i' : Nat} {obs : List (Option Obj)}
    (e : endOf ks (goX E H (runD den qt H n E) c .base .nil 0 i (den c) os ts .nil) = some (P, q, r, m', i', obs)) (hP : P) (hq : accsOk E q)
    (A : Around) (R : Result → Shared → Prop) (h : Heap) (g : Array GenState) (d : Drawn) (ox : OsState) (O : EvOk prog w top E A h)
    (hR : ∀ (h' : Heap) (T : GT), getAll T ks = obs → RepM E h h' T m' → R r ⟨h', g, d, E.t₀ + i', ox⟩) :
    codeAny (model prog w) A c R ⟨h, g, d, E.t₀ + i, ox⟩ := by
  cases hrun : goX E H (runD den qt H n E) c .base .nil 0 i (den c) os ts .nil with
  | stop k => rw [hrun] at e; cases e
  | done p r₁ T m₁ i₁ os₁ ts₁ =>
    rw [hrun] at e
    cases e
    exact code_ok HO n E c os ts i hrun (PS.holds_of hP hq) A R h g d ox O fun h' D => hR h' T rfl D
theorem end2_ok (n : Nat) (E : Ev) (c : Code) (os : List Orc) (ts i : Nat) (ks : List Nat) {P : Prop} {q : List (Addr × Nat)} {r : Result} {m' : Nat} {obs : List (Option Obj)}
    (e : end2 ks (goX E H (runD den qt H n E) c .base .nil 0 i (den c) os ts .nil) = some (P, q, r, m', obs)) (hP : P) (hq : accsOk E q) :
    ∃ (ι : Nat) (T : GT), getAll T ks = obs ∧ ∀ (A : Around) (R : Result → Shared → Prop) (h : Heap) (g : Array GenState) (d : Drawn) (ox : OsState), EvOk prog w top E A h →
      (∀ h' : Heap, RepM E h h' T m' → R r ⟨h', g, d, E.t₀ + ι, ox⟩) → codeAny (model prog w) A c R ⟨h, g, d, E.t₀ + i, ox⟩ := by
  cases hrun : goX E H (runD den qt H n E) c .base .nil 0 i (den c) os ts .nil with
  | stop k => rw [hrun] at e; cases e
  | done p r₁ T m₁ i₁ os₁ ts₁ =>
    rw [hrun] at e
    cases e
    exact ⟨i₁, T, rfl, fun A R h g d ox O hR => code_ok HO n E c os ts i hrun (PS.holds_of hP hq) A R h g d ox O hR⟩
end
end Mine
namespace Mine
open PySem PySem.W PySem.W.X
noncomputable def nm (id : String) : Nat := PySem.W.S.codeS id
noncomputable def natsEq : List Nat → List Nat → Bool
  | [], [] => true
  | a :: l, b :: r => match Nat.beq a b with
    | true => natsEq l r
    | false => false
  | _, _ => false
noncomputable def entryIdx (s : Str) : List DictEntry → Nat → Option (Nat × DictEntry)
  | [], _ => none
  | e :: l, j => match e.key with
    | .str x _ => match natsEq x.cps.toList s.cps.toList with
      | true => some (j, e)
      | false => entryIdx s l (j + 1)
    | _ => none
noncomputable def setVal (j : Nat) (v : Value) (es : Array DictEntry) : Array DictEntry := es.modify j fun e => { e with val := v }
noncomputable def qdiv (x y : Int) : UInt64 := Float64.ofFrac (decide (x < 0) != decide (y < 0)) x.natAbs y.natAbs
noncomputable def frnd (x : UInt64) : Option Int := match Float64.decode x with
  | .fin s m e => some (Float64.nearestOf s m e)
  | _ => none
noncomputable def leafII (E : Ev) (n : Nat) (x y : Int) (T : GT) (i : Nat) (os : List Orc) (ts : Nat) : Option HOut :=
  match Nat.beq n 116512097088030077292474218 with
  | true => match y with
    | .ofNat (n + 1) => some ⟨none, [], .int (x % (.ofNat (n + 1))) (E.t₀ + i), T, i + 1, os, ts, none⟩
    | _ => none
  | false => match Nat.beq n 455126531311803185852266 with
    | true => match os with
      | .bool b :: os => some ⟨some (decide (x < y) = b), [], .bool b, T, i, os, ts, none⟩
      | _ => none
    | false => match Nat.beq n 455125449040517733379946 with
      | true => match os with
        | .bool b :: os => some ⟨some (decide (y ≤ x) = b), [], .bool b, T, i, os, ts, none⟩
        | _ => none
      | false => match Nat.beq n 500417070820629625416170301335891818 with
        | true => some ⟨some (y ≠ 0 ∧ Float64.isInf (qdiv x y) = false), [], .float (qdiv x y) (E.t₀ + i), T, i + 1, os, ts, none⟩
        | false => match Nat.beq n 116512245094328231196454762 with
          | true => some ⟨some ((0 ≤ x ∧ x < 1000) ∧ (0 ≤ y ∧ y < 1000)), [], .int (x * y) (E.t₀ + i), T, i + 1, os, ts, none⟩
          | false => none
noncomputable def leafFF (E : Ev) (n : Nat) (x y : UInt64) (T : GT) (i : Nat) (os : List Orc) (ts : Nat) : Option HOut :=
  match Nat.beq n 29827172263816613219248663911 with
  | true => match os with
    | .bool b :: os => some ⟨some (Float64.gt x y = b), [], .bool b, T, i, os, ts, none⟩
    | _ => none
  | false => match Nat.beq n 29827172356050333587796421991 with
    | true => match os with
      | .bool b :: os => some ⟨some (Float64.lt x y = b), [], .bool b, T, i, os, ts, none⟩
      | _ => none
    | false => match Nat.beq n 29827158059823676462893919591 with
      | true => match os with
        | .bool b :: os => some ⟨some ((Float64.cmp x y == some .eq) = b), [], .bool b, T, i, os, ts, none⟩
        | _ => none
      | false => match Nat.beq n 29827101520553090543118216551 with
        | true => match os with
          | .bool b :: os => some ⟨some ((Float64.cmp x y == some .lt || Float64.cmp x y == some .eq) = b), [], .bool b, T, i, os, ts, none⟩
          | _ => none
        | false => match Nat.beq n 32795333153300783131274136868348788501863 with
          | true => some ⟨some (Float64.isZero y = false), [], .float (Float64.div x y) (E.t₀ + i), T, i + 1, os, ts, none⟩
          | false => match Nat.beq n 7635736794761139145439372668263 with
            | true => some ⟨some (Float64.isZero y = false), [], .float (Float64.divmod x y).2 (E.t₀ + i), T, i + 1, os, ts, none⟩
            | false => none
noncomputable def allStr : List DictEntry → Bool
  | [] => true
  | e :: l => match e.key with
    | .str _ _ => allStr l
    | _ => false
/-- a dict of strs: its entries and the place of a key -/
noncomputable def dictAt (o : Option Obj) (s : Str) : Option (List DictEntry × Nat × DictEntry) := match o with
  | some ⟨.type cn, _, .dict ⟨es⟩ _, _⟩ => match Nat.beq (nm cn) 1969515109 with
    | true => match allStr es with
      | true => match entryIdx s es 0 with
        | some (j, e) => some (es, j, e)
        | none => none
      | false => none
    | false => none
  | _ => none
noncomputable def leafDS (E : Ev) (n : Nat) (d : Addr) (s : Str) (T : GT) (i : Nat) (os : List Orc) (ts : Nat) : Option HOut :=
  match Nat.beq n 128106587276438692081757506308483082853 with
  | true => match dictAt (lookT E T d (tagN E d ts)) s with
    | some (_, _, e) => some ⟨none, [(d, tagN E d ts)], e.val, T, i + 1, os, tagR E ts, none⟩
    | none => none
  | false => match Nat.beq n 32795317678217157189674408721764466322021 with
    | true => match dictAt (lookT E T d (tagN E d ts)) s with
      | some _ => some ⟨none, [(d, tagN E d ts)], .bool true, T, i + 1, os, tagR E ts, none⟩
      | none => none
    | false => none
noncomputable def leafDSV (E : Ev) (n : Nat) (d : Addr) (s : Str) (v : Value) (T : GT) (i : Nat) (os : List Orc) (ts : Nat) : Option HOut :=
  match Nat.beq n 128106587276438692082622197436938218085 with
  | true => match ownOf (tagN E d ts) with
    | none => none
    | some k => match dictAt (T.get k) s with
      | some (_, j, _) => some ⟨none, [(d, tagN E d ts)], .none, T.set k (Obj.mapDict (setVal j v)), i + 1, os, tagR E ts, none⟩
      | none => none
  | false => none
noncomputable def leaf1 (E : Ev) (c : Code) (T : GT) (i : Nat) (os : List Orc) (ts : Nat) : Option HOut := match c with
  | .call f a => match f with
    | .builtin id => match a with
      | ⟨ps, kw⟩ => match kw with
        | [] => match ps with
          | [.int x _, .int y _] => leafII E (nm id) x y T i os ts
          | [.float x _, .float y _] => leafFF E (nm id) x y T i os ts
          | [.float x _] => match Nat.beq (nm id) 500415646281728323647805086210485607 with
            | true => match os with
              | .int p :: os => some ⟨some (frnd x = some p), [], .int p (E.t₀ + i), T, i + 1, os, ts, none⟩
              | _ => none
            | false => none
          | [.ref d, .str s _] => leafDS E (nm id) d s T i os ts
          | [.ref d, .str s _, v] => leafDSV E (nm id) d s v T i os ts
          | _ => none
        | _ => none
    | _ => none
  | _ => none
noncomputable def nextUp (k : Nat) : Obj → Obj := Obj.mapFields fun vs => vs.setIfInBounds 1 (rawInt (.ofNat k))
/-- a list's or a tuple's iterator: what it walks, and where it stands -/
noncomputable def iterAt (o : Option Obj) : Option (Addr × Nat) := match o with
  | some ⟨.type cn, _, .fields ⟨[.ref l, .int (.ofNat k) t]⟩, _⟩ => match Nat.beq t 0 with
    | true => match Nat.beq (nm cn) 9146042919481958196396663532141 with
      | true => some (l, k)
      | false => match Nat.beq (nm cn) 2341386987387381298277481322739317 with
        | true => some (l, k)
        | false => none
    | false => none
  | _ => none
noncomputable def itemsAt (o : Option Obj) : Option (List Value) := match o with
  | some ⟨_, _, .seq ⟨xs⟩ _, _⟩ => some xs
  | _ => none
/-- what a turn of a loop over an iterator with a state finds: the tags of the iterator, of what it walks, of the state; the state's items, the item drawn, the place; the tags left -/
structure TurnAt where
  t₁ : Nat
  l : Addr
  t₂ : Nat
  t₃ : Nat
  j₁ : Nat
  j₃ : Nat
  ys : List Value
  v : Value
  k : Nat
  ts : Nat
noncomputable def turnAt (E : Ev) (T : GT) (it st : Addr) (ts : Nat) : Option TurnAt := match ownOf (tagN E it ts) with
  | none => none
  | some j₁ => match iterAt (T.get j₁) with
    | none => none
    | some (l, k) => match itemsAt (lookT E T l (tagN E l (tagR E ts))) with
      | none => none
      | some xs => match xs[k]? with
        | none => none
        | some v => match ownOf (tagN E st (tagR E (tagR E ts))) with
          | none => none
          | some j₃ => match itemsAt (T.get j₃) with
            | none => none
            | some ys => some ⟨tagN E it ts, l, tagN E l (tagR E ts), tagN E st (tagR E (tagR E ts)), j₁, j₃, ys, v, k, tagR E (tagR E (tagR E ts))⟩
noncomputable def turnT (T : GT) (j₁ j₃ : Nat) (k : Nat) (vs : List Value) : GT := (T.set j₁ (nextUp (k + 1))).set j₃ (Obj.mapSeq fun _ => ⟨vs⟩)
noncomputable def turnQ (it st : Addr) (x : TurnAt) : List (Addr × Nat) := [(it, x.t₁), (x.l, x.t₂), (st, x.t₃)]
noncomputable def turnSum (E : Ev) (a : Args) (T : GT) (i : Nat) (os : List Orc) (ts : Nat) : Option TOut := match a with
  | ⟨[.ref it, .ref st, .int (.ofNat 0) _, .int (.ofNat 0) _], []⟩ => match turnAt E T it st ts with
    | some x => match x.ys with
      | [.int u _] => match x.v with
        | .int y _ => some ⟨some ((-9223372036854775808 ≤ y ∧ y < 9223372036854775808) ∧ (-9223372036854775808 ≤ u + y ∧ u + y < 9223372036854775808)), turnQ it st x, .builtin "sum.loop" ⟨[.ref it, .ref st, rawInt 0, rawInt 0], []⟩, turnT T x.j₁ x.j₃ x.k [.int (u + y) (E.t₀ + i)], i + 1, os, x.ts⟩
        | _ => none
      | _ => none
    | none => none
  | _ => none
noncomputable def better (mn : Bool) (x y : Int) : Bool := match mn with
  | true => decide (y < x)
  | false => decide (y > x)
noncomputable def betterF (mn : Bool) (x y : UInt64) : Bool := match mn with
  | true => Float64.lt y x
  | false => Float64.gt y x
/-- a turn of min | max behind the first -/
noncomputable def turnBest (mn : Bool) (E : Ev) (c : Code) (a : Args) (T : GT) (i : Nat) (os : List Orc) (ts : Nat) : Option TOut := match a with
  | ⟨[.ref it, .none, .ref st], []⟩ => match turnAt E T it st ts with
    | some z => match z.ys with
      | [.int x tx, .int x' tx'] => match z.v with
        | .int y ty => match os with
          | .int p :: os => some ⟨some (x' = x ∧ p = bif better mn x y then y else x), turnQ it st z, c, turnT T z.j₁ z.j₃ z.k [.int p (bif better mn x y then ty else tx), .int p (bif better mn x y then ty else tx')], i, os, z.ts⟩
          | _ => none
        | _ => none
      | [.float x tx, .float x' tx'] => match z.v with
        | .float y ty => match os with
          | .flt p :: os => some ⟨some (x' = x ∧ p = bif betterF mn x y then y else x), turnQ it st z, c, turnT T z.j₁ z.j₃ z.k [.float p (bif betterF mn x y then ty else tx), .float p (bif betterF mn x y then ty else tx')], i, os, z.ts⟩
          | _ => none
        | _ => none
      | _ => none
    | none => none
  | _ => none
noncomputable def turn1 (E : Ev) (c : Code) (T : GT) (i : Nat) (os : List Orc) (ts : Nat) : Option TOut := match c with
  | .builtin id a => match Nat.beq (nm id) 8174156937926964852 with
    | true => turnSum E a T i os ts
    | false => match Nat.beq (nm id) 8174156937927027310 with
      | true => turnBest true E c a T i os ts
      | false => match Nat.beq (nm id) 8174156937927680622 with
        | true => turnBest false E c a T i os ts
        | false => none
  | _ => none
/-- a call of a def, without the look at the frames' number -/
noncomputable def callT (self : Addr) (args : Args) : Sem Fin := .load self none fun o => match o.data with
  | .func fd => (match fd.code with
    | .none => Sem.pure fd.qualname
    | c => PySem.W.R.bindR (PySem.W.ZFast.zw6609576154772507232 c 1) fun v => match v with
      | .str q _ => Sem.pure q
      | _ => Sem.pure fd.qualname) |> fun q => PySem.W.R.bindR q fun compiled => PySem.W.R.bindR (PySem.W.ZFast.zw9782568553167038054 fd args) fun bs => PySem.W.R.bindR (PySem.W.ZFast.zw11113344188204177931 fd.scope fd.globals fd.closure bs (compiled ++ (⟨#[46, 60, 108, 111, 99, 97, 108, 115, 62, 46]⟩ : Str)) (some self) fd.code none fd.builtins) fun env =>
      match fd.body with
      | .stmts b => match fd.scope.isGenerator, fd.scope.isCoroutine with
        | false, false => .pure (.again (.func b env))
        | _, _ => .unsupported "mine"
      | .expr _ => .unsupported "mine"
  | _ => .unsupported "mine"
noncomputable def denN (c : Code) : Sem Fin := PySem.W.ZFast.zw11892475500146522536 PySem.W.ZFast.tableZ c
noncomputable def den1 (c : Code) : XT := match c with
  | .call f args => match f with
    | .ref a => .segA (callT a args) fun c' => .enter (.sem (.pure (.again c')))
    | _ => .sem (denN c)
  | c => .sem (denN c)
noncomputable def qt1 : Code → Bool := PySem.W.ZFast.zw17772548960776305114
end Mine
namespace Mine
open PySem PySem.W PySem.W.X PySem.Calls PySem.Spec
#check @PySem.W.ZFast.ze11892475500146522536
#check @PySem.W.ZFast.tableZ_eq
#check @PySem.W.ZFast.ze17772548960776305114
#check @PySem.W.ZFast.ze6609576154772507232
#check @PySem.W.ZFast.ze9782568553167038054
#check @PySem.W.ZFast.ze11113344188204177931
#check @PySem.W.R.bindR_eq
theorem qt1_ok (c : Code) (h : qt1 c = true) : c.quiet = true := by
  unfold qt1 at h
  rw [← PySem.W.ZFast.ze17772548960776305114] at h
  exact h
theorem denN_is (c : Code) : denN c = denote table c := by
  unfold denN
  rw [← PySem.W.ZFast.ze11892475500146522536, ← PySem.W.ZFast.tableZ_eq]
noncomputable def compiledOf (fd : FuncData) : Sem Str := match fd.code with
  | .none => Sem.pure fd.qualname
  | c => (field c 1).bind fun v => match v with
    | .str q _ => Sem.pure q
    | _ => Sem.pure fd.qualname
/-- the call of a def up to its frame -/
noncomputable def preC (self : Addr) (fd : FuncData) (args : Args) : Sem Env := compiledOf fd >>= fun compiled => bindArgs fd args >>= fun bs =>
  newFunctionEnv fd.scope fd.globals fd.closure bs (compiled ++ (".<locals>." : Str)) (some self) fd.code none fd.builtins
theorem callT_is (a : Addr) (args : Args) : callT a args = (PySem.load a >>= fun o => match o.data with
    | .func fd => (preC a fd args >>= fun env => match fd.body with
      | .stmts b => match fd.scope.isGenerator, fd.scope.isCoroutine with
        | false, false => (Sem.pure (Fin.again (.func b env)) : Sem Fin)
        | _, _ => Sem.unsupported "mine"
      | .expr _ => Sem.unsupported "mine")
    | _ => Sem.unsupported "mine") := by
  unfold callT
  rw [← PySem.W.R.bindR_eq, ← PySem.W.ZFast.ze6609576154772507232, ← PySem.W.ZFast.ze9782568553167038054, ← PySem.W.ZFast.ze11113344188204177931]
  have hl : (⟨#[46, 60, 108, 111, 99, 97, 108, 115, 62, 46]⟩ : Str) = (".<locals>." : Str) := by decide +kernel
  rw [hl]
  refine congrArg (Sem.load a none) (funext fun o => ?_)
  show _ = (match o.data with
    | .func fd => (preC a fd args >>= fun env => match fd.body with
      | .stmts b => match fd.scope.isGenerator, fd.scope.isCoroutine with
        | false, false => (Sem.pure (Fin.again (.func b env)) : Sem Fin)
        | _, _ => Sem.unsupported "mine"
      | .expr _ => Sem.unsupported "mine")
    | _ => Sem.unsupported "mine")
  cases hd : o.data with
  | func fd =>
    unfold preC
    simp only [bind_assoc]
    rfl
  | _ => rfl
theorem callF_is (a : Addr) (fd : FuncData) (args : Args) : callFunction a fd args = (preC a fd args >>= fun env => enterFrame >>= fun _ => (match fd.scope.isGenerator, fd.scope.isCoroutine with
    | false, false => again (match fd.body with | .stmts b => .func b env | .expr e => .expr e env)
    | true, false => do ret (← newGenerator (match fd.body with | .stmts b => .func b env | .expr e => .expr e env) fd.name fd.qualname)
    | false, true => do ret (← newCoroutine (match fd.body with | .stmts b => .func b env | .expr e => .expr e env) fd.name fd.qualname)
    | true, true => do ret (← newAsyncGenerator (match fd.body with | .stmts b => .func b env | .expr e => .expr e env) fd.name fd.qualname) : Sem Fin)) := by
  have K : ∀ (k : Str → Sem Fin), (match fd.code with
      | .none => k fd.qualname
      | c => (field c 1).bind fun v => match v with
        | .str q _ => k q
        | _ => k fd.qualname) = (compiledOf fd).bind k := by
    intro k
    unfold compiledOf
    cases fd.code with
    | none => rfl
    | _ =>
      refine Eq.trans ?_ (bind_assoc (m := Sem) _ _ _).symm
      refine congrArg (Sem.bind _) (funext fun v => ?_)
      cases v <;> rfl
  unfold preC
  simp only [bind_assoc]
  refine Eq.trans ?_ (K _)
  unfold callFunction
  cases fd.code <;> cases fd.scope.isGenerator <;> cases fd.scope.isCoroutine <;> first | rfl | (refine congrArg (Sem.bind _) (funext fun v => ?_); cases v <;> rfl)
theorem den_call {prog : Program} {w : World} {A : Around} {c : Code} {Q : Fin → Shared → Prop} {F : Value → Shared → Prop} {a : Addr} {args : Args} {s : Shared}
    (h : wpXT prog w A c Q F (.segA (callT a args) fun c' => .enter (.sem (.pure (.again c')))) s) : wpOwn (model prog w) A c (denote table (.call (.ref a) args)) Q F s := by
  intro Γ p hc hΓ
  have H := h Γ p hc hΓ
  rw [callT_is, Sem.wp_bind'] at H
  show Sem.wp (model prog w) Γ (PySem.load a >>= fun o => _) _ _ p s
  rw [Sem.wp_bind']
  refine Sem.wp_mono _ Γ _ (fun o p' s' h' => ?_) (fun _ _ _ h' => h'.elim) p s H
  cases hd : o.data with
  | func fd =>
    simp only [hd] at h' ⊢
    rw [Sem.wp_bind'] at h'
    rw [callF_is, Sem.wp_bind']
    refine Sem.wp_mono _ Γ _ (fun env p'' s'' h'' => ?_) (fun _ _ _ h' => h'.elim) p' s' h'
    cases hb : fd.body with
    | expr e => rw [hb] at h''; exact h''.elim
    | stmts b =>
      rw [hb] at h''
      cases hg : fd.scope.isGenerator <;> cases hk : fd.scope.isCoroutine <;> simp only [hg, hk] at h'' ⊢ <;> first | exact h''.elim | skip
      have h3 : wpAny (model prog w) (A.under c) enterFrame (fun _ s' => wpOwn (model prog w) A c (.pure (.again (.func b env))) Q F s') (fun _ _ => False) s'' := h''
      rw [Sem.wp_bind']
      refine Sem.wp_mono _ Γ _ (fun _ p3 s3 h4 => h4 Γ p3 hc hΓ) (fun _ _ _ h' => h'.elim) p'' s'' (h3 Γ p'' (hc ▸ hΓ.in))
  | _ => simp only [hd] at h'; exact h'.elim
theorem den1_ok {prog : Program} {w : World} (A : Around) (c : Code) (R : Result → Shared → Prop) (s : Shared) (h : wpXT prog w A c (postC prog w A R) (postE R) (den1 c) s) : codeAny (model prog w) A c R s := by
  refine y_code _ _ _ _ _ _ ?_
  have plain : den1 c = .sem (denN c) → wpOwn (model prog w) A c (denote table c) (postC prog w A R) (postE R) s := fun e => by
    rw [e] at h
    have h' : wpOwn (model prog w) A c (denN c) (postC prog w A R) (postE R) s := h
    rw [denN_is] at h'
    exact h'
  cases c with
  | call f args =>
    cases f with
    | ref a => exact den_call h
    | _ => exact plain rfl
  | _ => exact plain rfl
end Mine
namespace Mine
open PySem PySem.W PySem.W.X
noncomputable def bad : XT := .sem (.unsupported "mine")
noncomputable def isIterN (n : Nat) : Bool := match Nat.beq n 9146042919481958196396663532141 with
  | true => true
  | false => match Nat.beq n 2341386987387381298277481238717043 with
    | true => true
    | false => match Nat.beq n 10056180538108767159183876981558246666106228 with
      | true => true
      | false => Nat.beq n 2341386987387381298277481322739317
noncomputable def compT (e : PySem.Expr) (d : Nat) (it : Addr) (acc : Value) (env : Env) : Sem Fin := .load it none fun o => match o.cls with
  | .type cn => match isIterN (nm cn) with
    | true => .pure (.again (.compLoop e d (.ref it) acc env))
    | false => .unsupported "mine"
  | _ => .unsupported "mine"
noncomputable def isGenE : PySem.Expr → Bool
  | .GeneratorExp .. => true
  | _ => false
noncomputable def isCmpT : PySem.Expr → Bool
  | .Compare _ ops _ _ => match ops with
    | [.NotEq] => true
    | _ => false
  | _ => false
noncomputable def hasCmp : Nat → List Stmt → Bool
  | 0, _ => false
  | _, [] => false
  | n + 1, s :: rest => match s with
    | .If test body orelse _ => match isCmpT test with
      | true => true
      | false => match hasCmp n body with
        | true => true
        | false => match hasCmp n orelse with
          | true => true
          | false => hasCmp n rest
    | .Return v _ => match v with
      | some (.Compare _ [.Eq] [_] _) => true
      | _ => hasCmp n rest
    | _ => hasCmp n rest
noncomputable def xIf (test : PySem.Expr) (pos : Pos) (env : Env) (yes no : XT) : XT :=
  .seg (.at pos fun _ => (R.bindR (ZFast.zw15418851999007992765 test env (ZFast.zw14044960220447912780 test env)) fun b => .pure (.done (.ret (.bool b))))) fun f => match f with
    | .ret (.bool b) => match b with
      | true => yes
      | false => no
    | _ => bad
noncomputable def xCmp (op : CmpOp) (l r : PySem.Expr) (cpos pos : Pos) (env : Env) (K : Value → XT) : XT :=
  .seg (.at pos fun _ => (R.bindR (ZFast.zw14044960220447912780 l env) fun a => .pure (.done (.ret a)))) fun f => match f with
    | .ret a => .seg (R.bindR (ZFast.zw17359229931016689406 [a] (ZFast.zw14044960220447912780 r env)) fun b => .at cpos fun _ => (.pure (.done (.ret b)))) fun f => match f with
      | .ret b => .cmp op a b K
      | _ => bad
    | _ => bad
noncomputable def xPlain (s : Stmt) (env : Env) (K : Flow → XT) : XT := .seg (R.bindR (ZFast.zw12563942051412417395 [s] env) fun f => .pure (.done f)) K
noncomputable def xExecs : Nat → List Stmt → Env → (Flow → XT) → XT
  | 0, _, _, _ => bad
  | n + 1, l, env, K => match l with
    | [] => K .next
    | s :: rest => match s with
      | .If test body orelse pos => match test with
        | .Compare l [.NotEq] [r] cpos => xCmp .NotEq l r cpos pos env fun v => match v with
          | .bool b => match b with
            | true => xExecs n body env fun f => match f with
              | .next => xExecs n rest env K
              | f => K f
            | false => xExecs n orelse env fun f => match f with
              | .next => xExecs n rest env K
              | f => K f
          | _ => bad
        | test => xIf test pos env
          (xExecs n body env fun f => match f with
            | .next => xExecs n rest env K
            | f => K f)
          (xExecs n orelse env fun f => match f with
            | .next => xExecs n rest env K
            | f => K f)
      | .Return v pos => match v with
        | some (.Compare l [.Eq] [r] cpos) => xCmp .Eq l r cpos pos env fun v => K (.ret v)
        | v => xPlain (.Return v pos) env fun f => match f with
          | .next => xExecs n rest env K
          | f => K f
      | s => xPlain s env fun f => match f with
        | .next => xExecs n rest env K
        | f => K f
noncomputable def forHead (target : PySem.Expr) (it : Value) (env : Env) : Sem Fin :=
  .at (PySem.Expr.pos target) fun _ => (R.bindR (ZFast.zw9404975358583537561 it) fun o => match o with
    | none => .pure (.done .brk)
    | some v => R.bindR (ZFast.zw1578499551869305889 target it v) fun _ => R.bindR (ZFast.zw17772580674575903948 target env v) fun _ => .pure (.done .next))
noncomputable def xFor (target : PySem.Expr) (it : Value) (body orelse : List Stmt) (env : Env) : XT := .seg (forHead target it env) fun f => match f with
  | .brk => .sem (.pure (.again (.block orelse env)))
  | .next => xExecs 50 body env fun f => match f with
    | .next => .sem (.pure (.again (.forLoop target it body orelse env)))
    | .cont => .sem (.pure (.again (.forLoop target it body orelse env)))
    | .brk => .sem (.pure (.done .next))
    | .ret v => .sem (.pure (.done (.ret v)))
  | _ => bad
/-- a loop over a table's items, two names: the pair is the iterator's own -/
noncomputable def xForT (target : PySem.Expr) (r : Addr) (body orelse : List Stmt) (env : Env) : XT := .seg (.at (PySem.Expr.pos target) fun _ => (R.bindR (ZFast.zw9404975358583537561 (.ref r)) fun o => match o with
    | none => .pure (.done .brk)
    | some v => .pure (.done (.ret v)))) fun f => match f with
  | .brk => .sem (.pure (.again (.block orelse env)))
  | .ret v => match v with
    | .ref a => .seg (.load r none fun o => match o with
        | ⟨.type cn, _, .fields ⟨w :: _⟩, _⟩ => match Nat.beq (nm cn) 39281955226987371715819988748603916315237 with
          | true => .pure (.done (.ret w))
          | false => .unsupported "mine"
        | _ => .unsupported "mine") fun f => match f with
      | .ret w => .fact (w = rawInt a) (.seg (R.bindR (ZFast.zw12367529300394763782 r 0 .none) fun _ => R.bindR (ZFast.zw17772580674575903948 target env v) fun _ => .pure (.done .next)) fun _ => xExecs 50 body env fun f => match f with
        | .next => .sem (.pure (.again (.forLoop target (.ref r) body orelse env)))
        | .cont => .sem (.pure (.again (.forLoop target (.ref r) body orelse env)))
        | .brk => .sem (.pure (.done .next))
        | .ret v => .sem (.pure (.done (.ret v))))
      | _ => bad
    | _ => bad
  | _ => bad
noncomputable def isTup : PySem.Expr → Bool
  | .Tuple .. => true
  | _ => false
noncomputable def xFunc (body : List Stmt) (env : Env) : XT := xExecs 50 body env fun f => match f with
  | .ret v => .sem (.pure (.done (.ret v)))
  | _ => .sem (.pure (.done (.ret .none)))
noncomputable def den2 (c : Code) : XT := match c with
  | .compStart e d it acc env => match it with
    | .ref a => match isGenE e with
      | true => den1 c
      | false => .sem (compT e d a acc env)
    | _ => den1 c
  | .forLoop target it body orelse env => match isTup target with
    | true => match it with
      | .ref r => xForT target r body orelse env
      | _ => den1 c
    | false => match hasCmp 50 body with
      | true => xFor target it body orelse env
      | false => den1 c
  | .func body env => match hasCmp 50 body with
    | true => xFunc body env
    | false => den1 c
  | c => den1 c
end Mine
namespace Mine
open PySem PySem.W PySem.W.X
/-- data of ints, tables of ints under strs, lists -/
inductive Dt where
  | int (i : Int)
  | tab (l : List (Str × Int))
  | list (l : List Dt)
noncomputable def hasKey (x : Str) : List (Str × Int) → Bool
  | [] => false
  | (y, _) :: l => match natsEq y.cps.toList x.cps.toList with
    | true => true
    | false => hasKey x l
noncomputable def tabOf : List DictEntry → Option (List (Str × Int))
  | [] => some []
  | e :: l => match e.key with
    | .str x _ => match e.val with
      | .int i _ => match tabOf l with
        | some r => match hasKey x r with
          | true => none
          | false => some ((x, i) :: r)
        | none => none
      | _ => none
    | _ => none
/-- what a reading gives: the data, the addresses by their tags, the tags left -/
structure RD where
  d : Dt
  q : List (Addr × Nat)
  ts : Nat
structure RDs where
  d : List Dt
  q : List (Addr × Nat)
  ts : Nat
noncomputable def catQ : List (Addr × Nat) → List (Addr × Nat) → List (Addr × Nat)
  | [], r => r
  | x :: l, r => x :: catQ l r
noncomputable def readAll (f : Value → Nat → Option RD) : List Value → Nat → Option RDs
  | [], ts => some ⟨[], [], ts⟩
  | v :: l, ts => match f v ts with
    | some ⟨d, q, ts⟩ => match readAll f l ts with
      | some ⟨ds, qs, ts⟩ => some ⟨d :: ds, catQ q qs, ts⟩
      | none => none
    | none => none
noncomputable def readD (E : Ev) (T : GT) : Nat → Value → Nat → Option RD
  | 0, _, _ => none
  | n + 1, v, ts => match v with
    | .int i _ => some ⟨.int i, [], ts⟩
    | .ref a => match lookT E T a (tagN E a ts) with
      | some ⟨.type cn, _, .dict ⟨es⟩ _, _⟩ => match Nat.beq (nm cn) 1969515109 with
        | true => match tabOf es with
          | some l => some ⟨.tab l, [(a, tagN E a ts)], tagR E ts⟩
          | none => none
        | false => none
      | some ⟨.type cn, _, .seq ⟨xs⟩ _, _⟩ => match Nat.beq (nm cn) 1970563693 with
        | true => match readAll (readD E T n) xs (tagR E ts) with
          | some ⟨ds, qs, ts'⟩ => some ⟨.list ds, (a, tagN E a ts) :: qs, ts'⟩
          | none => none
        | false => none
      | _ => none
    | _ => none
/-- no address is that of the table of modules -/
noncomputable def noMods : List (Addr × Nat) → Prop
  | [] => True
  | (a, _) :: l => a ≠ sysModules ∧ noMods l
noncomputable def cmp2 (E : Ev) (T : GT) (op : CmpOp) (a b : Value) (os : List Orc) (ts : Nat) : Option COut := match a with
  | .ref _ => match b with
    | .ref _ => match readD E T 8 a ts with
      | some ⟨da, qa, ts⟩ => match readD E T 8 b ts with
        | some ⟨db, qb, ts⟩ => match da with
          | .list ds => match op with
            | .Eq => some ⟨some (Dt.list ds = db ∧ noMods qa ∧ noMods qb), catQ qa qb, .bool true, os, ts⟩
            | .NotEq => some ⟨some (Dt.list ds = db ∧ noMods qa ∧ noMods qb), catQ qa qb, .bool false, os, ts⟩
            | _ => none
          | _ => none
        | none => none
      | none => none
    | _ => none
  | _ => none
noncomputable def itemOf (o : Option Obj) (k : Nat) : Option Value := match o with
  | some ⟨_, _, .seq xs _, _⟩ => xs[k]?
  | _ => none
noncomputable def sizeOf (o : Option Obj) : Option Int := match o with
  | some ⟨_, _, .seq xs _, _⟩ => some (.ofNat xs.size)
  | _ => none
noncomputable def isListO (o : Option Obj) : Bool := match o with
  | some ⟨.type cn, _, .seq _ _, _⟩ => Nat.beq (nm cn) 1970563693
  | _ => false
/-- a list's item, a list's length, as told -/
noncomputable def leafL (E : Ev) (n : Nat) (l : Addr) (v : Value) (T : GT) (i : Nat) (os : List Orc) (ts : Nat) : Option HOut := match v with
  | .int k _ => match Nat.beq n 128106587276438692081757506308484131437 with
    | true => match isListO (lookT E T l (tagN E l ts)) with
      | true => match os with
        | .val x :: os => match ownOf (tagN E l ts) with
          | none => some ⟨some (0 ≤ k ∧ k < 9223372036854775808 ∧ itemOf (lookT E T l (tagN E l ts)) k.toNat = some x), [(l, tagN E l ts)], x, T, i, os, tagR E ts, none⟩
          | some _ => none
        | .item x :: os => match ownOf (tagN E l ts) with
          | none => none
          | some _ => some ⟨some (0 ≤ k ∧ k < 9223372036854775808 ∧ itemOf (lookT E T l (tagN E l ts)) k.toNat = some x), [(l, tagN E l ts)], x, T, i, os, tagR E ts, none⟩
        | _ => none
      | false => none
    | false => none
  | _ => none
noncomputable def leafLen (E : Ev) (n : Nat) (l : Addr) (T : GT) (i : Nat) (os : List Orc) (ts : Nat) : Option HOut := match os with
  | .int p :: os => match Nat.beq n 7300717 with
      | true => match ownOf (tagN E l ts) with
        | some _ => none
        | none => match isListO (lookT E T l (tagN E l ts)) with
          | true => some ⟨some (sizeOf (lookT E T l (tagN E l ts)) = some p ∧ p < 1000), [(l, tagN E l ts)], .int p (E.t₀ + (i + 1)), T, i + 2, os, tagR E ts, none⟩
          | false => none
      | false => none
  | _ => none
/-- the texts of a list -/
noncomputable def textsOf : List Value → Option (List Str)
  | [] => some []
  | v :: l => match v with
    | .str s _ => match textsOf l with
      | some r => some (s :: r)
      | none => none
    | _ => none
noncomputable def textsAt (o : Option Obj) : Option (List Str) := match o with
  | some ⟨.type cn, _, .seq ⟨xs⟩ _, _⟩ => match Nat.beq (nm cn) 1970563693 with
    | true => textsOf xs
    | false => none
  | _ => none
noncomputable def textVs : List Str → Nat → List Value
  | [], _ => []
  | s :: l, t => .str s t :: textVs l (t + 1)
noncomputable def lastSlice (o : Option Obj) : Bool := match o with
  | some ⟨.type cn, _, .fields ⟨[.int k _, .none, .none]⟩, _⟩ => match Nat.beq (nm cn) 439771360628 with
    | true => match k with
      | .negSucc 0 => true
      | _ => false
    | false => false
  | _ => false
/-- a line's last letter; a line has two or more -/
noncomputable def lastSays (s x : Str) : Prop := ∃ l c, s.cps.toList = l ++ [c] ∧ l ≠ [] ∧ x = ⟨#[c]⟩
noncomputable def catS : List Str → List Nat
  | [] => []
  | s :: l => s.cps.toList ++ catS l
noncomputable def joinOf (_ : Str) (l : List Str) : Str := ⟨⟨catS l⟩⟩
noncomputable def joinSays (s : Str) (l : List Str) : Prop := s = ⟨#[]⟩ ∧ 2 ≤ l.length ∧ (catS l).length < 100000
/-- lines with their ends cut: every line ends \r\n -/
noncomputable def glue : List Str → List Nat
  | [] => []
  | [s] => s.cps.toList
  | s :: l => s.cps.toList ++ 13 :: 10 :: glue l
noncomputable def splitSays (s z : Str) (l : List Str) : Prop := z = ⟨#[13, 10]⟩ ∧ s.cps.toList = glue l ∧ 2 ≤ l.length ∧ s.cps.size < 100000 ∧ ∀ x ∈ l, 13 ∉ x.cps.toList
/-- a piece: a cut of the text, or what stands in a place found -/
noncomputable abbrev Pc := Bool × List Nat
noncomputable def flushP : List Nat → List Pc
  | [] => []
  | c :: l => [(true, c :: l)]
noncomputable def flatP : List Pc → List Nat
  | [] => []
  | c :: l => c.2 ++ flatP l
noncomputable def tkP : List Pc → Nat
  | [] => 0
  | c :: l => c.1.toNat + tkP l
/-- every line end becomes \r\n -/
noncomputable def endsP : List Nat → List Nat → List Pc
  | [], cur => flushP cur
  | c :: l, cur => match c with
    | 13 => match l with
      | 10 :: l => flushP cur ++ (false, [13, 10]) :: endsP l []
      | l => flushP cur ++ (false, [13, 10]) :: endsP l []
    | 10 => flushP cur ++ (false, [13, 10]) :: endsP l []
    | c => endsP l (cur ++ [c])
/-- a dot more where a line begins with a dot -/
noncomputable def dotsP : List Nat → Bool → List Nat → List Pc
  | [], _, cur => flushP cur
  | c :: l, bol, cur => match c with
    | 46 => match bol with
      | true => flushP cur ++ (false, [46, 46]) :: dotsP l false []
      | false => dotsP l false (cur ++ [46])
    | 10 => dotsP l true (cur ++ [10])
    | c => dotsP l false (cur ++ [c])
noncomputable def subSays (z s : Str) (zl : List Nat) (P : List Pc) : Prop := z = ⟨⟨zl⟩⟩ ∧ s.cps.size < 100000 ∧ 2 ≤ P.length ∧ (flatP P).length ≤ 500000
/-- a pattern's code -/
noncomputable def patOf (o : Option Obj) : Option Addr := match o with
  | some ⟨.type cn, _, .fields ⟨[_, _, .int k _, _, _, .ref c, .int k' _]⟩, _⟩ => match Nat.beq (nm cn) 526311438103236490258035 with
    | true => match k with
      | .ofNat 0 => match k' with
        | .ofNat 0 => some c
        | _ => none
      | _ => none
    | false => none
  | _ => none
noncomputable def natsOf : List Value → Option (List Nat)
  | [] => some []
  | v :: l => match v with
    | .int (.ofNat n) _ => match natsOf l with
      | some r => some (n :: r)
      | none => none
    | _ => none
noncomputable def codeOf (o : Option Obj) : Option (List Nat) := match o with
  | some ⟨_, _, .seq ⟨xs⟩ _, _⟩ => natsOf xs
  | _ => none
noncomputable def dCl : List Nat := [14, 4, 0, 1, 1, 6, 1, 16, 46, 1]
noncomputable def eCl : List Nat := [14, 9, 4, 1, 2, 16, 10, 16, 13, 0, 7, 7, 16, 13, 16, 10, 15, 18, 5, 16, 10, 15, 13, 11, 16, 13, 5, 5, 0, 16, 10, 1, 15, 2, 0, 1]
/-- texts: what they hold -/
noncomputable def repS (s : Str) (n : Int) : Str := ⟨(List.replicate n.toNat s.cps).foldl (· ++ ·) #[]⟩
noncomputable def leafSI (E : Ev) (n : Nat) (s : Str) (t : Tok) (k : Int) (T : GT) (i : Nat) (os : List Orc) (ts : Nat) : Option HOut :=
  match Nat.beq n 116512245094328231196325236 with
  | true => some ⟨some (s.cps.size = 1 ∧ 1 ≤ k ∧ k < 1000), [], .str (bif decide (k = 1) then s else repS s k) (bif decide (k = 1) then t else E.t₀ + i), T, bif decide (k = 1) then i else i + 1, os, ts, none⟩
  | false => none
noncomputable def leafSS (E : Ev) (n : Nat) (s : Str) (z : Str) (T : GT) (i : Nat) (os : List Orc) (ts : Nat) : Option HOut :=
  match Nat.beq n 116512096292018843154609524 with
  | true => some ⟨some (s.cps.size ≠ 0 ∧ z.cps.size ≠ 0 ∧ s.cps.size + z.cps.size < 100000), [], .str (s ++ z) (E.t₀ + i), T, i + 1, os, ts, none⟩
  | false => match Nat.beq n 2165937967108325602676 with
    | true => match os with
      | .texts l :: os => some ⟨some (splitSays s z l), [], .none, T, i + l.length, os, ts, some (some { cls := .type "list", data := .seq ⟨textVs l (E.t₀ + i)⟩ })⟩
      | _ => none
    | false => none
noncomputable def leafS (E : Ev) (n : Nat) (s : Str) (T : GT) (i : Nat) (os : List Orc) (ts : Nat) : Option HOut :=
  match Nat.beq n 7300717 with
  | true => some ⟨some (s.cps.size < 100000), [], .int (.ofNat s.cps.size) (E.t₀ + (i + 1)), T, i + 2, os, ts, none⟩
  | false => none
/-- line[-1:] -/
noncomputable def leafSR (E : Ev) (n : Nat) (s : Str) (a : Addr) (T : GT) (i : Nat) (os : List Orc) (ts : Nat) : Option HOut :=
  match Nat.beq n 500416356548588640944365259017385332 with
  | true => match os with
    | .val (.str x _) :: os => match lastSlice (lookT E T a (tagN E a ts)) with
      | true => some ⟨some (lastSays s x), [(a, tagN E a ts)], .str x (E.t₀ + i), T, i + 1, os, tagR E ts, none⟩
      | false => none
    | _ => none
  | false => match Nat.beq n 8028352891401237876 with
    | true => match textsAt (lookT E T a (tagN E a ts)) with
      | some l => some ⟨some (joinSays s l), [(a, tagN E a ts)], .str (joinOf s l) (E.t₀ + i), T, i + 1, os, tagR E ts, none⟩
      | none => none
    | false => none
noncomputable def leafSub (E : Ev) (n : Nat) (p : Addr) (z s : Str) (T : GT) (i : Nat) (os : List Orc) (ts : Nat) : Option HOut :=
  match Nat.beq n 2017343431545162799825595839506035 with
  | true => match Nat.beq (tagN E p ts) 0 with
    | true => match patOf (E.old p) with
      | some c => match codeOf (E.old c) with
        | some l => match natsEq l dCl with
          | true => some ⟨some (subSays z s [46, 46] (dotsP s.cps.toList true [])), [(p, 0)], .str ⟨⟨flatP (dotsP s.cps.toList true [])⟩⟩ (E.t₀ + (i + tkP (dotsP s.cps.toList true []) + 1)), T, i + tkP (dotsP s.cps.toList true []) + 2, os, tagR E ts, some none⟩
          | false => match natsEq l eCl with
            | true => some ⟨some (subSays z s [13, 10] (endsP s.cps.toList [])), [(p, 0)], .str ⟨⟨flatP (endsP s.cps.toList [])⟩⟩ (E.t₀ + (i + tkP (endsP s.cps.toList []) + 1)), T, i + tkP (endsP s.cps.toList []) + 2, os, tagR E ts, some none⟩
            | false => none
        | none => none
      | none => none
    | false => none
  | false => none
noncomputable def leaf2 (E : Ev) (c : Code) (T : GT) (i : Nat) (os : List Orc) (ts : Nat) : Option HOut := match leaf1 E c T i os ts with
  | some o => some o
  | none => match c with
    | .call f a => match f with
      | .builtin id => match a with
        | ⟨ps, kw⟩ => match kw with
          | [] => match ps with
            | [.ref l] => leafLen E (nm id) l T i os ts
            | [.ref l, v] => leafL E (nm id) l v T i os ts
            | [.str s _] => leafS E (nm id) s T i os ts
            | [.str s t, .int k _] => leafSI E (nm id) s t k T i os ts
            | [.str s _, .str z _] => leafSS E (nm id) s z T i os ts
            | [.str s _, .ref a] => leafSR E (nm id) s a T i os ts
            | [.ref p, .str z _, .str s _] => leafSub E (nm id) p z s T i os ts
            | _ => none
          | _ => none
      | _ => none
    | _ => none
/-- the law's own level: its four helpers by their contracts -/
noncomputable def joinsL (c : Code) : Bool := match c with
  | .call f _ => match f with
    | .ref f => match Nat.beq f 88 with
      | true => true
      | false => match Nat.beq f 93 with
        | true => true
        | false => Nat.beq f 98
    | _ => false
  | _ => false
end Mine
namespace Mine
open PySem PySem.W PySem.W.X PySem.Calls PySem.Spec
theorem nm_inj {a b : String} (h : nm a = nm b) : a = b := PySem.code_inj _ _ (by rw [PySem.W.S.code_S, PySem.W.S.code_S]; exact h)
theorem nm_is {id : String} {n : Nat} (b : String) (h : Nat.beq (nm id) n = true) (hb : PySem.code b = n) : id = b :=
  PySem.code_inj _ _ (by rw [hb, PySem.W.S.code_S]; exact Nat.eq_of_beq_eq_true h)
end Mine
namespace Mine
open PySem PySem.W PySem.W.X PySem.Calls PySem.Spec
theorem gives_code {prog : Program} {w : World} {A : Around} {s : Shared} {R : Result → Shared → Prop} {T : String} {name : Str} {id : String} {B : Builtin} {self : Value} {rest : List Value} {m : Made} (slot : Slot T name id) (hT : s.TypeIs self T)
    (entry : entryFor table id = some B) (args : argsOk id ⟨self :: rest, []⟩) (g : Gives (B ⟨self :: rest, []⟩) m) (h : m.post (fun v s' => R (.ok (.ret v)) s') s) :
    codeAny (model prog w) A (.call (.builtin id) ⟨self :: rest, []⟩) R s :=
  codeAny_call_builtin slot.plain entry (slot.check _ _ _ _ _ _ _ _ hT args (g prog w A R s h))
variable {prog : Program} {w : World}
theorem leafII_ok {E : Ev} {id : String} {x y : Int} {tx ty : Tok} {T : GT} {i : Nat} {os : List Orc} {ts : Nat} {o : HOut} (e : leafII E (nm id) x y T i os ts = some o) :
    LeafSays prog w E (.call (.builtin id) ⟨[.int x tx, .int y ty], []⟩) T i o := by
  unfold leafII at e
  split at e
  · rename_i q
    have := nm_is "int.__mod__" q (by decide +kernel)
    subst this
    cases y with
    | negSucc n => cases e
    | ofNat n =>
      cases n with
      | zero => cases e
      | succ n =>
        cases e
        intro _ _ A h₀ h m g d ox R _ _ D _ hR
        refine gives_code F.slot_int_mod (typeIs_int _ _ _) F.entry_int_mod (F.args_int_mod_2 _ _) (AutoIntG6.int___mod___int_int_1 _ _ _ _ (by simp; lia)) ?_
        have hm : x.fmod (Int.ofNat (n + 1)) = x % Int.ofNat (n + 1) := Int.fmod_eq_emod_of_nonneg _ (Int.natCast_nonneg (n + 1))
        rw [hm]
        exact hR h D
  · split at e
    · rename_i q
      have := nm_is "int.__lt__" q (by decide +kernel)
      subst this
      split at e
      · cases e
        intro hA _ A h₀ h m g d ox R _ _ D _ hR
        refine gives_code F.slot_int_lt (typeIs_int _ _ _) F.entry_int_lt (F.args_int_lt_2 _ _) (AutoIntG1.int___lt___int_int_0 _ _ _ _) ?_
        have hA' : decide (x < y) = _ := hA
        show R (.ok (.ret (.bool (decide (x < y))))) _
        rw [hA']
        exact hR h D
      · cases e
    · split at e
      · rename_i q
        have := nm_is "int.__ge__" q (by decide +kernel)
        subst this
        split at e
        · cases e
          intro hA _ A h₀ h m g d ox R _ _ D _ hR
          refine gives_code F.slot_int_ge (typeIs_int _ _ _) F.entry_int_ge (F.args_int_ge_2 _ _) (AutoIntG9.int___ge___int_int_0 _ _ _ _) ?_
          have hA' : decide (y ≤ x) = _ := hA
          show R (.ok (.ret (.bool (decide (x ≥ y))))) _
          rw [show decide (x ≥ y) = decide (y ≤ x) from rfl, hA']
          exact hR h D
        · cases e
      · split at e
        · rename_i q
          have := nm_is "int.__truediv__" q (by decide +kernel)
          subst this
          cases e
          intro hA _ A h₀ h m g d ox R _ _ D _ hR
          have hA' : y ≠ 0 ∧ Float64.isInf (qdiv x y) = false := hA
          refine gives_code F.slot_int_truediv (typeIs_int _ _ _) F.entry_int_truediv (F.args_int_truediv_2 _ _) (AutoIntG4.int___truediv___int_int_2 _ _ _ _ (by simp [hA'.1]) (by have := hA'.2; unfold qdiv at this; rw [this]; exact Bool.false_ne_true)) ?_
          exact hR h D
        · split at e
          · rename_i q
            have := nm_is "int.__mul__" q (by decide +kernel)
            subst this
            cases e
            intro hA _ A h₀ h m g d ox R _ _ D _ hR
            obtain ⟨⟨a1, a2⟩, a3, a4⟩ := (hA : (0 ≤ x ∧ x < 1000) ∧ (0 ≤ y ∧ y < 1000))
            refine gives_code F.slot_int_mul (typeIs_int _ _ _) F.entry_int_mul (F.args_int_mul_2 _ _) (AutoIntG1.int___mul___int_int_0 _ _ _ _ (PySem.IntMulOk.of_left (PySem.intBits_le_64 (by lia) (by lia)))) ?_
            exact hR h D
          · cases e
theorem leafFF_ok {E : Ev} {id : String} {x y : UInt64} {tx ty : Tok} {T : GT} {i : Nat} {os : List Orc} {ts : Nat} {o : HOut} (e : leafFF E (nm id) x y T i os ts = some o) :
    LeafSays prog w E (.call (.builtin id) ⟨[.float x tx, .float y ty], []⟩) T i o := by
  unfold leafFF at e
  split at e
  · rename_i q
    have := nm_is "float.__gt__" q (by decide +kernel)
    subst this
    split at e
    · cases e
      intro hA _ A h₀ h m g d ox R _ _ D _ hR
      refine gives_code F.slot_float_gt (AutoFloatOps.typeIs_float _ _ _) F.entry_float_gt (F.args_float_gt_2 _ _) (AutoFloatG4.float___gt___float_float_0 _ _ _ _) ?_
      have hA' : (Float64.cmp x y == some Ordering.gt) = _ := hA
      show R (.ok (.ret (.bool (Float64.cmp x y == some Ordering.gt)))) _
      rw [hA']
      exact hR h D
    · cases e
  · split at e
    · rename_i q
      have := nm_is "float.__lt__" q (by decide +kernel)
      subst this
      split at e
      · cases e
        intro hA _ A h₀ h m g d ox R _ _ D _ hR
        refine gives_code F.slot_float_lt (AutoFloatOps.typeIs_float _ _ _) F.entry_float_lt (F.args_float_lt_2 _ _) (AutoFloatG5.float___lt___float_float_0 _ _ _ _) ?_
        have hA' : (Float64.cmp x y == some Ordering.lt) = _ := hA
        show R (.ok (.ret (.bool (Float64.cmp x y == some Ordering.lt)))) _
        rw [hA']
        exact hR h D
      · cases e
    · split at e
      · rename_i q
        have := nm_is "float.__eq__" q (by decide +kernel)
        subst this
        split at e
        · cases e
          intro hA _ A h₀ h m g d ox R _ _ D _ hR
          refine gives_code F.slot_float_eq (AutoFloatOps.typeIs_float _ _ _) F.entry_float_eq (F.args_float_eq_2 _ _) (AutoFloatG5.float___eq___float_float_0 _ _ _ _) ?_
          have hA' : (Float64.cmp x y == some Ordering.eq) = _ := hA
          show R (.ok (.ret (.bool (Float64.cmp x y == some Ordering.eq)))) _
          rw [hA']
          exact hR h D
        · cases e
      · split at e
        · rename_i q
          have := nm_is "float.__le__" q (by decide +kernel)
          subst this
          split at e
          · cases e
            intro hA _ A h₀ h m g d ox R _ _ D _ hR
            refine gives_code F.slot_float_le (AutoFloatOps.typeIs_float _ _ _) F.entry_float_le (F.args_float_le_2 _ _) (AutoFloatG3.float___le___float_float_0 _ _ _ _) ?_
            have hA' : (Float64.cmp x y == some Ordering.lt || Float64.cmp x y == some Ordering.eq) = _ := hA
            show R (.ok (.ret (.bool (Float64.cmp x y == some Ordering.lt || Float64.cmp x y == some Ordering.eq)))) _
            rw [hA']
            exact hR h D
          · cases e
        · split at e
          · rename_i q
            have := nm_is "float.__truediv__" q (by decide +kernel)
            subst this
            cases e
            intro hA _ A h₀ h m g d ox R _ _ D _ hR
            have hA' : Float64.isZero y = false := hA
            refine gives_code F.slot_float_truediv (AutoFloatOps.typeIs_float _ _ _) F.entry_float_truediv (F.args_float_truediv_2 _ _) (AutoFloatG1.float___truediv___float_float_1 _ _ _ _ (by rw [hA']; exact Bool.false_ne_true)) ?_
            exact hR h D
          · split at e
            · rename_i q
              have := nm_is "float.__mod__" q (by decide +kernel)
              subst this
              cases e
              intro hA _ A h₀ h m g d ox R _ _ D _ hR
              have hA' : Float64.isZero y = false := hA
              refine gives_code F.slot_float_mod (AutoFloatOps.typeIs_float _ _ _) F.entry_float_mod (F.args_float_mod_2 _ _) (AutoFloatG2.float___mod___float_float_1 _ _ _ _ (by rw [hA']; exact Bool.false_ne_true)) ?_
              exact hR h D
            · cases e
end Mine
namespace Mine
open PySem PySem.W PySem.W.X PySem.Calls PySem.Spec
section
variable {prog : Program} {w : World} {A : Around} {E : Value → Shared → Prop} {s : Shared}
/-- a str is found among strs by its value, whatever the hashes -/
theorem dictFind_str {d : Addr} {o : Obj} {es : Array DictEntry} {ep : Nat} {x : Str} {t u : Tok} {hsh : Int} {i : Nat} {e : DictEntry} {Q : Option Nat → Shared → Prop} (ho : s.heap.get? d = some o) (hd : o.data = .dict es ep)
    (hall : (es.all fun e => isExactStrKey e.key) = true) (hi : es.findIdx? (·.key.isStr x) = some i) (he : es[i]? = some e) (hk : e.key = .str x u) (h : Q (some i) s) :
    wpAny (model prog w) A (dictFind d (.str x t) hsh) Q E s := by
  unfold dictFind
  try with_reducible refine wpAny_holding ?_
  refine wpAny_bind (wpAny_dictEntries ho hd ?_)
  dsimp only
  rw [if_pos hall]
  unfold foundByValue
  rw [hi]
  dsimp only
  rw [he]
  dsimp only
  refine wpAny_bind (wpAny_dictEpoch ho hd (wpAny_bind ?_))
  rw [hk]
  refine wpAny_eqBool_str (wpAny_bind (wpAny_dictEpoch ho hd ?_))
  rw [if_neg (by simp)]
  simp only [decide_true]
  exact wpAny_bind (wpAny_rule (wpAny_pure h))
theorem dictGet_str {d : Addr} {o : Obj} {es : Array DictEntry} {ep : Nat} {x : Str} {t u : Tok} {i : Nat} {e : DictEntry} {Q : Option Value → Shared → Prop} (ho : s.heap.get? d = some o) (hd : o.data = .dict es ep)
    (hall : (es.all fun e => isExactStrKey e.key) = true) (hi : es.findIdx? (·.key.isStr x) = some i) (he : es[i]? = some e) (hk : e.key = .str x u) (h : Q (some e.val) { s with toks := s.toks + 1 }) :
    wpAny (model prog w) A (dictGet d (.str x t)) Q E s := by
  unfold dictGet
  try with_reducible refine wpAny_holding ?_
  refine wpAny_bind (wpAny_pyHash_str (wpAny_bind (dictFind_str (s := { s with toks := s.toks + 1 }) ho hd hall hi he hk ?_)))
  refine wpAny_bind (wpAny_dictEntries (s := { s with toks := s.toks + 1 }) ho hd ?_)
  rw [he]
  exact wpAny_pure h
theorem dictSet_str {d : Addr} {o : Obj} {es : Array DictEntry} {ep : Nat} {x : Str} {t u : Tok} {i : Nat} {e : DictEntry} {v : Value} {Q : Unit → Shared → Prop} (ho : s.heap.get? d = some o) (hd : o.data = .dict es ep)
    (hall : (es.all fun e => isExactStrKey e.key) = true) (hi : es.findIdx? (·.key.isStr x) = some i) (he : es[i]? = some e) (hk : e.key = .str x u)
    (h : Q () { s with heap := s.heap.update d (Obj.mapDict (setVal i v)), toks := s.toks + 1 }) :
    wpAny (model prog w) A (dictSet d (.str x t) v) Q E s := by
  unfold dictSet
  try with_reducible refine wpAny_holding ?_
  refine wpAny_bind (wpAny_pyHash_str ?_)
  unfold dictSetHashed
  try with_reducible refine wpAny_holding ?_
  refine wpAny_bind (dictFind_str (s := { s with toks := s.toks + 1 }) ho hd hall hi he hk ?_)
  refine wpAny_bind (wpAny_rule (wpAny_bind (wpAny_updateDict (s := { s with toks := s.toks + 1 }) ho hd ?_)))
  exact wpAny_point h
end
end Mine
namespace Mine
open PySem PySem.W PySem.W.X PySem.Calls PySem.Spec
theorem natsEq_is : ∀ a b : List Nat, natsEq a b = true → a = b
  | [], [], _ => rfl
  | [], _ :: _, h => by cases h
  | _ :: _, [], h => by cases h
  | a :: l, b :: r, h => by
    have h' : (match Nat.beq a b with | true => natsEq l r | false => false) = true := h
    cases q : Nat.beq a b with
    | false => rw [q] at h'; cases h'
    | true => rw [q] at h'; rw [Nat.eq_of_beq_eq_true q, natsEq_is l r h']
theorem natsEq_refl : ∀ a : List Nat, natsEq a a = true
  | [] => rfl
  | a :: l => by show (match Nat.beq a a with | true => natsEq l l | false => false) = true; rw [Nat.beq_refl]; exact natsEq_refl l
theorem entryIdx_is (s : Str) : ∀ (l : List DictEntry) (j₀ j : Nat) (e : DictEntry), entryIdx s l j₀ = some (j, e) → ∃ k, j = j₀ + k ∧ l[k]? = some e ∧ (∃ u, e.key = .str s u) ∧ l.findIdx? (·.key.isStr s) = some k
  | [], _, _, _, h => by cases h
  | x :: l, j₀, j, e, h => by
    unfold entryIdx at h
    split at h
    · rename_i y u hk
      split at h
      · rename_i q
        cases h
        have hy : y = s := by
          have := natsEq_is _ _ q
          cases y; cases s; simp only at this; congr 1; exact Array.ext' this
        refine ⟨0, rfl, rfl, ⟨u, by rw [hk, hy]⟩, ?_⟩
        rw [List.findIdx?_cons]
        have : x.key.isStr s = true := by rw [hk, hy]; simp [Value.isStr]
        rw [this]; rfl
      · rename_i q
        obtain ⟨k, e1, e2, e3, e4⟩ := entryIdx_is s l (j₀ + 1) j e h
        refine ⟨k + 1, by lia, e2, e3, ?_⟩
        rw [List.findIdx?_cons]
        have : x.key.isStr s = false := by
          rw [hk]
          show (y == s) = false
          cases hb : y == s with
          | false => rfl
          | true =>
            have : y = s := eq_of_beq hb
            rw [this] at q
            rw [natsEq_refl] at q
            cases q
        rw [this, e4]; rfl
    · cases h
theorem allStr_is : ∀ l : List DictEntry, allStr l = true → ∀ e ∈ l, isExactStrKey e.key = true
  | [], _, e, he => by cases he
  | x :: l, h, e, he => by
    unfold allStr at h
    split at h
    · rename_i hk
      rcases List.mem_cons.mp he with rfl | he
      · rw [hk]; rfl
      · exact allStr_is l h e he
    · cases h
theorem dictAt_is {o : Option Obj} {s : Str} {es : List DictEntry} {j : Nat} {e : DictEntry} (h : dictAt o s = some (es, j, e)) : ∃ ob ep, o = some ob ∧ ob.cls = .type "dict" ∧ ob.data = .dict ⟨es⟩ ep ∧
    ((⟨es⟩ : Array DictEntry).all fun e => isExactStrKey e.key) = true ∧ (⟨es⟩ : Array DictEntry).findIdx? (·.key.isStr s) = some j ∧ (⟨es⟩ : Array DictEntry)[j]? = some e ∧ ∃ u, e.key = .str s u := by
  unfold dictAt at h
  split at h
  · rename_i cn dd es' ep sl
    split at h
    · rename_i q
      split at h
      · rename_i qa
        split at h
        · rename_i j' e' qe
          cases h
          obtain ⟨k, hj, e2, e3, e4⟩ := entryIdx_is s _ 0 _ _ qe
          have hj' : j = k := by lia
          subst hj'
          refine ⟨_, ep, rfl, by rw [nm_is "dict" q (by decide +kernel)], rfl, ?_, ?_, ?_, e3⟩
          · rw [Array.all_eq_true_iff_forall_mem]
            intro x hx
            exact allStr_is _ qa x (by simpa using hx)
          · simpa using e4
          · simpa using e2
        · cases h
      · cases h
    · cases h
  · cases h
section
variable {prog : Program} {w : World}
theorem meets_code {A : Around} {s : Shared} {R : Result → Shared → Prop} {T : String} {name : Str} {id : String} {B : Builtin} {self : Value} {rest : List Value} (slot : Slot T name id) (hT : s.TypeIs self T)
    (entry : entryFor table id = some B) (args : argsOk id ⟨self :: rest, []⟩)
    (h : wpAny (model prog w) A.in1 (B ⟨self :: rest, []⟩) (fun fin s' => ∃ v, fin = .done (.ret v) ∧ R (.ok (.ret v)) s') (fun e s' => R (.error e) s') s) :
    codeAny (model prog w) A (.call (.builtin id) ⟨self :: rest, []⟩) R s :=
  codeAny_call_builtin slot.plain entry (slot.check _ _ _ _ _ _ _ _ hT args (wpAny_mono h (fun fin s' h' => by obtain ⟨v, rfl, hv⟩ := h'; exact hv) fun _ _ x => x))
theorem leafDS_ok {E : Ev} {id : String} {d : Addr} {x : Str} {t : Tok} {T : GT} {i : Nat} {os : List Orc} {ts : Nat} {o : HOut} (e : leafDS E (nm id) d x T i os ts = some o) :
    LeafSays prog w E (.call (.builtin id) ⟨[.ref d, .str x t], []⟩) T i o := by
  unfold leafDS at e
  split at e
  · rename_i q
    have := nm_is "dict.__getitem__" q (by decide +kernel)
    subst this
    split at e
    · rename_i es j en qd
      cases e
      intro _ hq A h₀ h m g dr ox R _ O D _ hR
      obtain ⟨ob, ep, e1, e2, e3, e4, e5, e6, u, e7⟩ := dictAt_is qd
      have ho := D.look O e1 (hq (d, tagN E d ts) (.head _))
      refine meets_code slot_dict_getitem ⟨ob, ho, e2⟩ entry_dict_getitem (args_dict_getitem _ _) ?_
      show wpAny _ _ (dictGet d (.str x t) >>= _) _ _ _
      refine wpAny_bind (dictGet_str (s := ⟨h, g, dr, E.t₀ + i, ox⟩) ho e3 e4 e5 e6 e7 ?_)
      exact wpAny_pure ⟨_, rfl, hR h D⟩
    · cases e
  · split at e
    · rename_i q
      have := nm_is "dict.__contains__" q (by decide +kernel)
      subst this
      split at e
      · rename_i z qd
        cases e
        intro _ hq A h₀ h m g dr ox R _ O D _ hR
        obtain ⟨es, j, en⟩ := z
        obtain ⟨ob, ep, e1, e2, e3, e4, e5, e6, u, e7⟩ := dictAt_is qd
        have ho := D.look O e1 (hq (d, tagN E d ts) (.head _))
        refine meets_code slot_dict_contains ⟨ob, ho, e2⟩ entry_dict_contains (args_dict_contains _ _) ?_
        show wpAny _ _ (dictGet d (.str x t) >>= _) _ _ _
        refine wpAny_bind (dictGet_str (s := ⟨h, g, dr, E.t₀ + i, ox⟩) ho e3 e4 e5 e6 e7 ?_)
        exact wpAny_pure ⟨_, rfl, hR h D⟩
      · cases e
    · cases e
theorem leafDSV_ok {E : Ev} {id : String} {d : Addr} {x : Str} {t : Tok} {v : Value} {T : GT} {i : Nat} {os : List Orc} {ts : Nat} {o : HOut} (e : leafDSV E (nm id) d x v T i os ts = some o) :
    LeafSays prog w E (.call (.builtin id) ⟨[.ref d, .str x t, v], []⟩) T i o := by
  unfold leafDSV at e
  split at e
  · rename_i q
    have := nm_is "dict.__setitem__" q (by decide +kernel)
    subst this
    split at e
    · cases e
    · rename_i k qn
      split at e
      · rename_i es j en qd
        cases e
        intro _ hq A h₀ h m g dr ox R _ O D _ hR
        obtain ⟨ob, ep, e1, e2, e3, e4, e5, e6, u, e7⟩ := dictAt_is qd
        obtain ⟨hn, hw⟩ := ownOf_is (E := E) qn
        have hd : d = E.ad k := (hq (d, tagN E d ts) (.head _) hn).trans hw
        subst hd
        have ho := (D.own _ _ e1).2
        have hf : (Obj.mapDict (setVal j v) ob).isFreed = false := by
          obtain ⟨oc, od, odt, osl⟩ := ob
          simp only at e3
          subst e3
          rfl
        refine meets_code slot_dict_setitem ⟨ob, ho, e2⟩ entry_dict_setitem (args_dict_setitem _ _ _) ?_
        show wpAny _ _ (Builtin.Dict.notOrdered "__setitem__" ⟨[.ref (E.ad k), .str x t, v], []⟩ >>= _) _ _ _
        refine wpAny_bind (wpAny_notOrdered_dict ⟨ob, ho, e2⟩ ?_)
        show wpAny _ _ (dictSet (E.ad k) (.str x t) v >>= _) _ _ _
        refine wpAny_bind (dictSet_str (s := ⟨h, g, dr, E.t₀ + i, ox⟩) ho e3 e4 e5 e6 e7 ?_)
        exact wpAny_pure ⟨_, rfl, hR _ (D.update O e1 hf)⟩
      · cases e
  · cases e
end
end Mine
namespace Mine
open PySem PySem.W PySem.W.X PySem.Calls PySem.Spec
theorem round_gives (a : UInt64) (t : Tok) (sg : Bool) (m : Nat) (e : Int) (hd : Float64.decode a = .fin sg m e) : Gives (Builtin.«float.__round__» ⟨[.float a t], []⟩) (.int (Float64.nearestOf sg m e)) :=
  .of_wp fun M A E s Q h => by
    obtain ⟨hp, g, d, tk, os⟩ := s
    have hf : Builtin.Float.finiteParts a = pure (sg, m, e) := by unfold Builtin.Float.finiteParts; rw [hd]
    unfold Builtin.«float.__round__»
    wp_walk
    exact ⟨_, rfl, h⟩
theorem round_ok {prog : Program} {w : World} {E : Ev} {x : UInt64} {tx : Tok} {T : GT} {i : Nat} {p : Int} {os : List Orc} {ts : Nat} :
    LeafSays prog w E (.call (.builtin "float.__round__") ⟨[.float x tx], []⟩) T i ⟨some (frnd x = some p), [], .int p (E.t₀ + i), T, i + 1, os, ts, none⟩ := by
  intro hA _ A h₀ h m g d ox R _ _ D _ hR
  have hA' : frnd x = some p := hA
  unfold frnd at hA'
  split at hA'
  · rename_i sg mm ee hd
    cases hA'
    exact gives_code F.slot_float_round (AutoFloatOps.typeIs_float _ _ _) F.entry_float_round (F.args_float_round_1 _) (round_gives x tx sg mm ee hd) (hR h D)
  · cases hA'
theorem leaf1_ok {prog : Program} {w : World} {E : Ev} {c : Code} {T : GT} {i : Nat} {os : List Orc} {ts : Nat} {o : HOut} (e : leaf1 E c T i os ts = some o) : LeafSays prog w E c T i o := by
  unfold leaf1 at e
  split at e
  · split at e
    · split at e
      split at e
      · split at e
        · exact leafII_ok e
        · exact leafFF_ok e
        · split at e
          · rename_i q
            have := nm_is "float.__round__" q (by decide +kernel)
            subst this
            split at e
            · cases e; exact round_ok
            · cases e
          · cases e
        · exact leafDS_ok e
        · exact leafDSV_ok e
        · cases e
      · cases e
    · cases e
  · cases e
end Mine
namespace Mine
open PySem PySem.W PySem.W.X PySem.Calls PySem.Spec
section
variable {prog : Program} {w : World} {A : Around} {E : Value → Shared → Prop} {s : Shared}
/-- an item drawn of a list's iterator, exactly -/
theorem next_list {it l : Addr} {k n : Nat} {o ol : Obj} {items : Array Value} {x : Value} {Q : Option Value → Shared → Prop} (ho : s.heap.get? it = some o) (hc : o.cls = .type "list_iterator") (hd : o.data = .fields #[.ref l, .int k 0])
    (hl : s.heap.get? l = some ol) (hdl : ol.data = .seq items n) (hx : items[k]? = some x) (hQ : Q (some x) { s with heap := s.heap.update it (nextUp (k + 1)) }) :
    wpAny (model prog w) A (pyNext (.ref it)) Q E s := by
  have hT : s.TypeIs (.ref it) "list_iterator" := ⟨o, ho, hc⟩
  unfold pyNext
  refine wpAny_bind (wpAny_attempt (wpAny_callSpecial?_slot (name := Str.ofString "__next__") hT slot_listiter_next (wpAny_call_entry slot_listiter_next hT entry_listiter_next ?_ (args_listiter_next _))))
  show wpAny _ _ (field (.ref it) 0 >>= _) _ _ s
  refine wpAny_bind (wpAny_field ho hd (x := .ref l) rfl ?_)
  show wpAny _ _ (if (Value.ref l == Value.none) = true then _ else _) _ _ s
  rw [if_neg (show ¬ ((Value.ref l == Value.none) = true) from Bool.false_ne_true)]
  show wpAny _ _ (field (.ref it) 1 >>= _) _ _ s
  refine wpAny_bind (wpAny_field ho hd (x := .int k 0) rfl ?_)
  show wpAny _ _ (seqItems? (.ref l) >>= _) _ _ s
  refine wpAny_bind (wpAny_seqItems hl hdl ?_)
  simp only [Int.toNat_natCast, hx]
  exact wpAny_bind (wpAny_setField ho hd (by simp) (wpAny_pure ⟨x, rfl, wpAny_pure hQ⟩))
theorem next_tuple {it l : Addr} {k n : Nat} {o ol : Obj} {items : Array Value} {x : Value} {Q : Option Value → Shared → Prop} (ho : s.heap.get? it = some o) (hc : o.cls = .type "tuple_iterator") (hd : o.data = .fields #[.ref l, .int k 0])
    (hl : s.heap.get? l = some ol) (hdl : ol.data = .seq items n) (hx : items[k]? = some x) (hQ : Q (some x) { s with heap := s.heap.update it (nextUp (k + 1)) }) :
    wpAny (model prog w) A (pyNext (.ref it)) Q E s := by
  have hT : s.TypeIs (.ref it) "tuple_iterator" := ⟨o, ho, hc⟩
  unfold pyNext
  refine wpAny_bind (wpAny_attempt (wpAny_callSpecial?_slot (name := Str.ofString "__next__") hT F.slot_tuple_iterator_next (wpAny_call_entry F.slot_tuple_iterator_next hT F.entry_tuple_iterator_next ?_ (F.args_tuple_iterator_next_1 _))))
  show wpAny _ _ (field (.ref it) 0 >>= _) _ _ s
  refine wpAny_bind (wpAny_field ho hd (x := .ref l) rfl ?_)
  show wpAny _ _ (if (Value.ref l == Value.none) = true then _ else _) _ _ s
  rw [if_neg (show ¬ ((Value.ref l == Value.none) = true) from Bool.false_ne_true)]
  show wpAny _ _ (field (.ref it) 1 >>= _) _ _ s
  refine wpAny_bind (wpAny_field ho hd (x := .int k 0) rfl ?_)
  show wpAny _ _ (seqItems? (.ref l) >>= _) _ _ s
  refine wpAny_bind (wpAny_seqItems hl hdl ?_)
  simp only [Int.toNat_natCast, hx]
  exact wpAny_bind (wpAny_setField ho hd (by simp) (wpAny_pure ⟨x, rfl, wpAny_pure hQ⟩))
end
theorem iterAt_is {o : Option Obj} {l : Addr} {k : Nat} (h : iterAt o = some (l, k)) : ∃ ob, o = some ob ∧ ob.data = .fields #[.ref l, .int k 0] ∧ (ob.cls = .type "list_iterator" ∨ ob.cls = .type "tuple_iterator") := by
  unfold iterAt at h
  split at h
  · rename_i cn dd l' k' t sl
    split at h
    · rename_i qt
      have ht : t = 0 := Nat.eq_of_beq_eq_true qt
      subst ht
      split at h
      · rename_i q
        cases h
        exact ⟨_, rfl, rfl, .inl (by rw [nm_is "list_iterator" q (by decide +kernel)])⟩
      · split at h
        · rename_i q
          cases h
          exact ⟨_, rfl, rfl, .inr (by rw [nm_is "tuple_iterator" q (by decide +kernel)])⟩
        · cases h
    · cases h
  · cases h
theorem itemsAt_is {o : Option Obj} {xs : List Value} (h : itemsAt o = some xs) : ∃ ob n, o = some ob ∧ ob.data = .seq ⟨xs⟩ n := by
  unfold itemsAt at h
  split at h
  · cases h; exact ⟨_, _, rfl, rfl⟩
  · cases h
section
variable {prog : Program} {w : World} {E : Ev} {h₀ h : Heap} {T : GT} {m : Nat}
/-- what a turn finds, and what it may rely on -/
structure Found (prog : Program) (w : World) (E : Ev) (h₀ h : Heap) (T : GT) (m : Nat) (it st : Addr) (z : TurnAt) : Prop where
  next : ∀ (A : Around) (Er : Value → Shared → Prop) (g : Array GenState) (d : Drawn) (tk : Nat) (ox : OsState) (Q : Option Value → Shared → Prop), Q (some z.v) ⟨h.update it (nextUp (z.k + 1)), g, d, tk, ox⟩ → wpAny (model prog w) A (pyNext (.ref it)) Q Er ⟨h, g, d, tk, ox⟩
  state : ∃ o n, h.get? st = some o ∧ (h.update it (nextUp (z.k + 1))).get? st = some o ∧ o.data = .seq ⟨z.ys⟩ n
  rep : ∀ vs : List Value, RepM E h₀ ((h.update it (nextUp (z.k + 1))).update st (Obj.mapSeq fun _ => ⟨vs⟩)) (turnT T z.j₁ z.j₃ z.k vs) m
  same : RepM E h₀ (h.update it (nextUp (z.k + 1))) (turnT T z.j₁ z.j₃ z.k z.ys) m
theorem RepM.setSame {j : Nat} {o : Obj} {f : Obj → Obj} (D : RepM E h₀ h T m) (e : T.get j = some o) (hf : f o = o) : RepM E h₀ h (T.set j f) m := by
  refine ⟨D.size, fun i o' e' => ?_, D.keep⟩
  rw [GT.get_set] at e'
  by_cases hi : i = j
  · subst hi
    rw [if_pos rfl, e] at e'
    have : f o = o' := by simpa using e'
    rw [hf] at this
    subst this
    exact D.own _ _ e
  · rw [if_neg hi] at e'
    exact D.own _ _ e'
theorem turnAt_is {it st : Addr} {ts : Nat} {z : TurnAt} (e : turnAt E T it st ts = some z) (hq : allQ E (turnQ it st z)) (O : EvH prog w E h₀) (D : RepM E h₀ h T m) : Found prog w E h₀ h T m it st z := by
  unfold turnAt at e
  split at e
  · cases e
  · rename_i j₁ q1
    split at e
    · cases e
    · rename_i l k qi
      split at e
      · cases e
      · rename_i xs qx
        split at e
        · cases e
        · rename_i v qv
          split at e
          · cases e
          · rename_i j₃ q3
            split at e
            · cases e
            · rename_i ys qs
              cases e
              obtain ⟨oi, e1, e2, e3⟩ := iterAt_is qi
              obtain ⟨ol, nl, e4, e5⟩ := itemsAt_is qx
              obtain ⟨os, ns, e6, e7⟩ := itemsAt_is qs
              obtain ⟨n1, w1⟩ := ownOf_is (E := E) q1
              obtain ⟨n3, w3⟩ := ownOf_is (E := E) q3
              have hit : it = E.ad j₁ := (hq (it, tagN E it ts) (.head _) n1).trans w1
              have hst : st = E.ad j₃ := (hq (st, tagN E st (tagR E (tagR E ts))) (.tail _ (.tail _ (.head _))) n3).trans w3
              have hL := D.look O e4 (hq (l, tagN E l (tagR E ts)) (.tail _ (.head _)))
              have hi := (D.own _ _ e1).2
              have hs := (D.own _ _ e6).2
              subst hit; subst hst
              have hne : E.ad j₁ ≠ E.ad j₃ := fun x => by
                rw [x] at hi
                rw [hi] at hs
                cases hs
                rw [e2] at e7
                cases e7
              have hup : (h.update (E.ad j₁) (nextUp (k + 1))).get? (E.ad j₃) = some os := (Heap.get?_update_other _ _ hne).trans hs
              have hnf : (nextUp (k + 1) oi).isFreed = false := by
                obtain ⟨oc, od, odt, osl⟩ := oi
                simp only at e2
                subst e2
                rfl
              have D1 := D.update O e1 hnf
              have hg : (T.set j₁ (nextUp (k + 1))).get j₃ = some os := by
                have hne' : ¬ (j₃ = j₁) := fun x => hne (by rw [x])
                rw [GT.get_set, if_neg hne', e6]
              have hms : ∀ vs : List Value, (Obj.mapSeq (fun _ => ⟨vs⟩) os).isFreed = false := fun vs => by
                obtain ⟨oc, od, odt, osl⟩ := os
                simp only at e7
                subst e7
                rfl
              refine ⟨fun A Er g d tk ox Q hQ => ?_, ⟨os, ns, hs, hup, e7⟩, fun vs => D1.update O hg (hms vs), D1.setSame hg ?_⟩
              · have hx : (⟨xs⟩ : Array Value)[k]? = some v := by simpa using qv
                rcases e3 with e3 | e3
                · exact next_list (s := ⟨h, g, d, tk, ox⟩) hi e3 e2 hL e5 hx hQ
                · exact next_tuple (s := ⟨h, g, d, tk, ox⟩) hi e3 e2 hL e5 hx hQ
              · obtain ⟨oc, od, odt, osl⟩ := os
                simp only at e7
                subst e7
                simp [Obj.mapSeq]
theorem turnSum_ok {a : Args} {T : GT} {i : Nat} {os : List Orc} {ts : Nat} {o : TOut} (e : turnSum E a T i os ts = some o) : TurnSays prog w E (.builtin "sum.loop" a) T i o := by
  unfold turnSum at e
  split at e
  · rename_i it st t1 t2
    split at e
    · rename_i z q
      split at e
      · rename_i u tu hys
        split at e
        · rename_i y ty hv
          cases e
          intro hP hq A h₀ h m g d ox R hh O D hR
          obtain ⟨⟨f1, f2⟩, f3, f4⟩ := (hP : (-9223372036854775808 ≤ y ∧ y < 9223372036854775808) ∧ (-9223372036854775808 ≤ u + y ∧ u + y < 9223372036854775808))
          have Fd := turnAt_is (prog := prog) (w := w) q hq O D
          obtain ⟨ob, n, hs1, hs2, hd⟩ := Fd.state
          rw [hys] at hd
          have Fn := Fd.next
          rw [hv] at Fn
          refine ⟨plainId_quiet F.plain_sum_loop _, codeAny_builtin F.entry_sum_loop ?_⟩
          rw [Around.under_plainId F.plain_sum_loop _]
          show wpAny _ A.in1 (seqItems? (.ref st) >>= _) _ _ _
          refine wpAny_bind (wpAny_seqItems (s := ⟨h, g, d, E.t₀ + i, ox⟩) hs1 hd ?_)
          show wpAny _ A.in1 (tryCatch (pyNext (.ref it)) _ >>= _) _ _ _
          refine wpAny_bind (wpAny_tryCatch (Fn A.in1 _ g d _ ox _ ?_))
          have hc : ((decide (-(2 ^ 63) ≤ y) && decide (y < 2 ^ 63)) && (decide (-(2 ^ 63) ≤ u + y) && decide (u + y < 2 ^ 63))) = true := by
            simp only [Bool.and_eq_true, decide_eq_true_eq]
            refine ⟨⟨?_, ?_⟩, ?_, ?_⟩ <;> lia
          show wpAny _ A.in1 (if (_ : Bool) = true then (mkInt (u + y) >>= _) else _) _ _ _
          split
          · refine wpAny_bind (wpAny_mkInt ?_)
            show wpAny _ A.in1 (updateSeq st (fun _ => #[.int (u + y) (E.t₀ + i)]) >>= _) _ _ _
            refine wpAny_bind (wpAny_updateSeq (s := ⟨h.update it (nextUp (z.k + 1)), g, d, E.t₀ + i + 1, ox⟩) hs2 hd ?_)
            exact wpAny_pure ⟨plainId_quiet F.plain_sum_loop _, hR _ (Fd.rep _)⟩
          · rename_i hneg
            exact absurd hc hneg
        · cases e
      · cases e
    · cases e
  · cases e
theorem turnMin_ok {a : Args} {T : GT} {i : Nat} {os : List Orc} {ts : Nat} {o : TOut} (e : turnBest true E (.builtin "min.loop" a) a T i os ts = some o) : TurnSays prog w E (.builtin "min.loop" a) T i o := by
  have hname : (toString "min" ++ toString ".loop" : String) = "min.loop" := by decide
  unfold turnBest at e
  split at e
  · rename_i it st
    split at e
    · rename_i z q
      split at e
      · rename_i x tx x' tx' hys
        split at e
        · rename_i y ty hv
          split at e
          · rename_i p os₁
            cases e
            intro hP hq A h₀ h m g d ox R hh O D hR
            obtain ⟨hx, hp⟩ := (hP : x' = x ∧ p = bif better true x y then y else x)
            subst hx
            have Fd := turnAt_is (prog := prog) (w := w) q hq O D
            obtain ⟨ob, n, hs1, hs2, hd⟩ := Fd.state
            rw [hys] at hd
            have Fn := Fd.next
            rw [hv] at Fn
            refine ⟨plainId_quiet F.plain_min_loop _, codeAny_builtin F.entry_min_loop ?_⟩
            rw [Around.under_plainId F.plain_min_loop _]
            show wpAny _ A.in1 (seqItems? (.ref st) >>= _) _ _ _
            refine wpAny_bind (wpAny_seqItems (s := ⟨h, g, d, E.t₀ + i, ox⟩) hs1 hd ?_)
            show wpAny _ A.in1 (tryCatch (pyNext (.ref it)) _ >>= _) _ _ _
            refine wpAny_bind (wpAny_tryCatch (Fn A.in1 _ g d _ ox _ ?_))
            show wpAny _ A.in1 (tryCatch (holding [.int y ty, .int y ty] (richCompare .Lt (.int y ty) (.int x' tx') >>= _)) _ >>= _) _ _ _
            refine wpAny_bind (wpAny_tryCatch (wpAny_holding (wpAny_bind (richCompare_gives (op := .Lt) (typeIs_int _ _ _) (typeIs_int _ _ _) F.slot_int_lt F.entry_int_lt (F.args_int_lt_2 _ _) (gives_int_lt _ _ _ _) (fun x => nomatch x) ?_))))
            refine wpAny_bind (wpAny_holding (wpAny_truthy_bool ?_))
            refine wpAny_bind (wpAny_letGo (wpAny_pure ?_))
            cases hb : decide (y < x') with
            | true =>
              have hb' : better true x' y = true := hb
              rw [hb'] at hp hR
              simp only [cond_true] at hp hR
              subst hp
              simp only [if_true]
              refine wpAny_bind (wpAny_updateSeq (s := ⟨h.update it (nextUp (z.k + 1)), g, d, E.t₀ + i, ox⟩) hs2 hd (wpAny_bind (wpAny_letGo ?_)))
              rw [hname]
              exact wpAny_pure ⟨plainId_quiet F.plain_min_loop _, hR _ (Fd.rep _)⟩
            | false =>
              have hb' : better true x' y = false := hb
              rw [hb'] at hp hR
              simp only [cond_false] at hp hR
              subst hp
              simp only [Bool.false_eq_true, if_false]
              refine wpAny_bind (wpAny_letGo ?_)
              rw [hname]
              have Fs := Fd.same
              rw [hys] at Fs
              exact wpAny_pure ⟨plainId_quiet F.plain_min_loop _, hR _ Fs⟩
          · cases e
        · cases e
      · rename_i x tx x' tx' hys
        split at e
        · rename_i y ty hv
          split at e
          · rename_i p os₁
            cases e
            intro hP hq A h₀ h m g d ox R hh O D hR
            obtain ⟨hx, hp⟩ := (hP : x' = x ∧ p = bif betterF true x y then y else x)
            subst hx
            have Fd := turnAt_is (prog := prog) (w := w) q hq O D
            obtain ⟨ob, n, hs1, hs2, hd⟩ := Fd.state
            rw [hys] at hd
            have Fn := Fd.next
            rw [hv] at Fn
            refine ⟨plainId_quiet F.plain_min_loop _, codeAny_builtin F.entry_min_loop ?_⟩
            rw [Around.under_plainId F.plain_min_loop _]
            show wpAny _ A.in1 (seqItems? (.ref st) >>= _) _ _ _
            refine wpAny_bind (wpAny_seqItems (s := ⟨h, g, d, E.t₀ + i, ox⟩) hs1 hd ?_)
            show wpAny _ A.in1 (tryCatch (pyNext (.ref it)) _ >>= _) _ _ _
            refine wpAny_bind (wpAny_tryCatch (Fn A.in1 _ g d _ ox _ ?_))
            show wpAny _ A.in1 (tryCatch (holding [.float y ty, .float y ty] (richCompare .Lt (.float y ty) (.float x' tx') >>= _)) _ >>= _) _ _ _
            refine wpAny_bind (wpAny_tryCatch (wpAny_holding (wpAny_bind (richCompare_gives (op := .Lt) (AutoFloatOps.typeIs_float _ _ _) (AutoFloatOps.typeIs_float _ _ _) F.slot_float_lt F.entry_float_lt (F.args_float_lt_2 _ _) (AutoFloatG5.float___lt___float_float_0 _ _ _ _) (fun x => nomatch x) ?_))))
            refine wpAny_bind (wpAny_holding (wpAny_truthy_bool ?_))
            refine wpAny_bind (wpAny_letGo (wpAny_pure ?_))
            dsimp only []
            cases hb : (Float64.cmp y x' == some Ordering.lt) with
            | true =>
              have hb' : betterF true x' y = true := hb
              rw [hb'] at hp hR
              simp only [cond_true] at hp hR
              subst hp
              simp only [if_true]
              refine wpAny_bind (wpAny_updateSeq (s := ⟨h.update it (nextUp (z.k + 1)), g, d, E.t₀ + i, ox⟩) hs2 hd (wpAny_bind (wpAny_letGo ?_)))
              rw [hname]
              exact wpAny_pure ⟨plainId_quiet F.plain_min_loop _, hR _ (Fd.rep _)⟩
            | false =>
              have hb' : betterF true x' y = false := hb
              rw [hb'] at hp hR
              simp only [cond_false] at hp hR
              subst hp
              simp only [Bool.false_eq_true, if_false]
              refine wpAny_bind (wpAny_letGo ?_)
              rw [hname]
              have Fs := Fd.same
              rw [hys] at Fs
              exact wpAny_pure ⟨plainId_quiet F.plain_min_loop _, hR _ Fs⟩
          · cases e
        · cases e
      · cases e
    · cases e
  · cases e
theorem turnMax_ok {a : Args} {T : GT} {i : Nat} {os : List Orc} {ts : Nat} {o : TOut} (e : turnBest false E (.builtin "max.loop" a) a T i os ts = some o) : TurnSays prog w E (.builtin "max.loop" a) T i o := by
  have hname : (toString "max" ++ toString ".loop" : String) = "max.loop" := by decide
  unfold turnBest at e
  split at e
  · rename_i it st
    split at e
    · rename_i z q
      split at e
      · rename_i x tx x' tx' hys
        split at e
        · rename_i y ty hv
          split at e
          · rename_i p os₁
            cases e
            intro hP hq A h₀ h m g d ox R hh O D hR
            obtain ⟨hx, hp⟩ := (hP : x' = x ∧ p = bif better false x y then y else x)
            subst hx
            have Fd := turnAt_is (prog := prog) (w := w) q hq O D
            obtain ⟨ob, n, hs1, hs2, hd⟩ := Fd.state
            rw [hys] at hd
            have Fn := Fd.next
            rw [hv] at Fn
            refine ⟨plainId_quiet F.plain_max_loop _, codeAny_builtin F.entry_max_loop ?_⟩
            rw [Around.under_plainId F.plain_max_loop _]
            show wpAny _ A.in1 (seqItems? (.ref st) >>= _) _ _ _
            refine wpAny_bind (wpAny_seqItems (s := ⟨h, g, d, E.t₀ + i, ox⟩) hs1 hd ?_)
            show wpAny _ A.in1 (tryCatch (pyNext (.ref it)) _ >>= _) _ _ _
            refine wpAny_bind (wpAny_tryCatch (Fn A.in1 _ g d _ ox _ ?_))
            show wpAny _ A.in1 (tryCatch (holding [.int y ty, .int y ty] (richCompare .Gt (.int y ty) (.int x' tx') >>= _)) _ >>= _) _ _ _
            refine wpAny_bind (wpAny_tryCatch (wpAny_holding (wpAny_bind (richCompare_gives (op := .Gt) (typeIs_int _ _ _) (typeIs_int _ _ _) F.slot_int_gt F.entry_int_gt (F.args_int_gt_2 _ _) (gives_int_gt _ _ _ _) (fun x => nomatch x) ?_))))
            refine wpAny_bind (wpAny_holding (wpAny_truthy_bool ?_))
            refine wpAny_bind (wpAny_letGo (wpAny_pure ?_))
            cases hb : decide (y > x') with
            | true =>
              have hb' : better false x' y = true := hb
              rw [hb'] at hp hR
              simp only [cond_true] at hp hR
              subst hp
              simp only [if_true]
              refine wpAny_bind (wpAny_updateSeq (s := ⟨h.update it (nextUp (z.k + 1)), g, d, E.t₀ + i, ox⟩) hs2 hd (wpAny_bind (wpAny_letGo ?_)))
              rw [hname]
              exact wpAny_pure ⟨plainId_quiet F.plain_max_loop _, hR _ (Fd.rep _)⟩
            | false =>
              have hb' : better false x' y = false := hb
              rw [hb'] at hp hR
              simp only [cond_false] at hp hR
              subst hp
              simp only [Bool.false_eq_true, if_false]
              refine wpAny_bind (wpAny_letGo ?_)
              rw [hname]
              have Fs := Fd.same
              rw [hys] at Fs
              exact wpAny_pure ⟨plainId_quiet F.plain_max_loop _, hR _ Fs⟩
          · cases e
        · cases e
      · rename_i x tx x' tx' hys
        split at e
        · rename_i y ty hv
          split at e
          · rename_i p os₁
            cases e
            intro hP hq A h₀ h m g d ox R hh O D hR
            obtain ⟨hx, hp⟩ := (hP : x' = x ∧ p = bif betterF false x y then y else x)
            subst hx
            have Fd := turnAt_is (prog := prog) (w := w) q hq O D
            obtain ⟨ob, n, hs1, hs2, hd⟩ := Fd.state
            rw [hys] at hd
            have Fn := Fd.next
            rw [hv] at Fn
            refine ⟨plainId_quiet F.plain_max_loop _, codeAny_builtin F.entry_max_loop ?_⟩
            rw [Around.under_plainId F.plain_max_loop _]
            show wpAny _ A.in1 (seqItems? (.ref st) >>= _) _ _ _
            refine wpAny_bind (wpAny_seqItems (s := ⟨h, g, d, E.t₀ + i, ox⟩) hs1 hd ?_)
            show wpAny _ A.in1 (tryCatch (pyNext (.ref it)) _ >>= _) _ _ _
            refine wpAny_bind (wpAny_tryCatch (Fn A.in1 _ g d _ ox _ ?_))
            show wpAny _ A.in1 (tryCatch (holding [.float y ty, .float y ty] (richCompare .Gt (.float y ty) (.float x' tx') >>= _)) _ >>= _) _ _ _
            refine wpAny_bind (wpAny_tryCatch (wpAny_holding (wpAny_bind (richCompare_gives (op := .Gt) (AutoFloatOps.typeIs_float _ _ _) (AutoFloatOps.typeIs_float _ _ _) F.slot_float_gt F.entry_float_gt (F.args_float_gt_2 _ _) (AutoFloatG4.float___gt___float_float_0 _ _ _ _) (fun x => nomatch x) ?_))))
            refine wpAny_bind (wpAny_holding (wpAny_truthy_bool ?_))
            refine wpAny_bind (wpAny_letGo (wpAny_pure ?_))
            dsimp only []
            cases hb : (Float64.cmp y x' == some Ordering.gt) with
            | true =>
              have hb' : betterF false x' y = true := hb
              rw [hb'] at hp hR
              simp only [cond_true] at hp hR
              subst hp
              simp only [if_true]
              refine wpAny_bind (wpAny_updateSeq (s := ⟨h.update it (nextUp (z.k + 1)), g, d, E.t₀ + i, ox⟩) hs2 hd (wpAny_bind (wpAny_letGo ?_)))
              rw [hname]
              exact wpAny_pure ⟨plainId_quiet F.plain_max_loop _, hR _ (Fd.rep _)⟩
            | false =>
              have hb' : betterF false x' y = false := hb
              rw [hb'] at hp hR
              simp only [cond_false] at hp hR
              subst hp
              simp only [Bool.false_eq_true, if_false]
              refine wpAny_bind (wpAny_letGo ?_)
              rw [hname]
              have Fs := Fd.same
              rw [hys] at Fs
              exact wpAny_pure ⟨plainId_quiet F.plain_max_loop _, hR _ Fs⟩
          · cases e
        · cases e
      · cases e
    · cases e
  · cases e
theorem turn1_ok {c : Code} {T : GT} {i : Nat} {os : List Orc} {ts : Nat} {o : TOut} (e : turn1 E c T i os ts = some o) : TurnSays prog w E c T i o := by
  unfold turn1 at e
  split at e
  · split at e
    · rename_i q
      have := nm_is "sum.loop" q (by decide +kernel)
      subst this
      exact turnSum_ok e
    · split at e
      · rename_i q
        have := nm_is "min.loop" q (by decide +kernel)
        subst this
        exact turnMin_ok e
      · split at e
        · rename_i q
          have := nm_is "max.loop" q (by decide +kernel)
          subst this
          exact turnMax_ok e
        · cases e
  · cases e
end
end Mine
namespace Mine
open PySem PySem.W PySem.W.X PySem.Calls PySem.Spec PySem.SeqAt
theorem hasKey_no {x : Str} : ∀ {l : List (Str × Int)}, hasKey x l = false → ∀ p ∈ l, p.1 ≠ x
  | [], _, p, hp => by cases hp
  | (y, n) :: l, h, p, hp => by
    unfold hasKey at h
    split at h
    · cases h
    · rename_i q
      rcases List.mem_cons.mp hp with rfl | hp
      · intro e
        simp only at e
        rw [e, natsEq_refl] at q
        cases q
      · exact hasKey_no h p hp
theorem tabOf_is : ∀ {L : List DictEntry} {l : List (Str × Int)}, tabOf L = some l → L.length = l.length ∧ (∀ e ∈ L, ∃ x u, e.key = .str x u ∧ ∃ n, (x, n) ∈ l) ∧
    ∀ i x n, l[i]? = some (x, n) → ∃ hs u t, L[i]? = some ⟨hs, .str x u, .int n t⟩ ∧ L.findIdx? (·.key.isStr x) = some i
  | [], l, h => by
    cases h
    exact ⟨rfl, fun e he => (by cases he), fun i x n hi => by simp at hi⟩
  | e :: L, l, h => by
    obtain ⟨hs, key, val⟩ := e
    unfold tabOf at h
    dsimp only at h
    split at h
    · rename_i x u
      split at h
      · rename_i n t
        split at h
        · rename_i r hr
          split at h
          · cases h
          · rename_i hk
            cases h
            obtain ⟨h1, h2, h3⟩ := tabOf_is hr
            refine ⟨by simp [h1], fun e he => ?_, fun i y m hi => ?_⟩
            · rcases List.mem_cons.mp he with rfl | he
              · exact ⟨x, u, rfl, n, .head _⟩
              · obtain ⟨y, u', e1, m, hm⟩ := h2 e he
                exact ⟨y, u', e1, m, .tail _ hm⟩
            · cases i with
              | zero =>
                simp only [List.getElem?_cons_zero, Option.some.injEq, Prod.mk.injEq] at hi
                obtain ⟨rfl, rfl⟩ := hi
                refine ⟨hs, u, t, rfl, ?_⟩
                rw [List.findIdx?_cons]
                simp [Value.isStr]
              | succ i =>
                simp only [List.getElem?_cons_succ] at hi
                obtain ⟨hs', u', t', e1, e2⟩ := h3 i y m hi
                refine ⟨hs', u', t', by simpa using e1, ?_⟩
                rw [List.findIdx?_cons]
                have hne : (y, m).1 ≠ x := hasKey_no hk (y, m) (List.mem_of_getElem? hi)
                have : Value.isStr (.str x u) y = false := by
                  show (x == y) = false
                  simp only [beq_eq_false_iff_ne, ne_eq]
                  exact fun z => hne z.symm
                dsimp only
                rw [this, e2]; rfl
        · cases h
      · cases h
    · cases h
section
variable {prog : Program} {w : World} {A : Around} {s : Shared}
theorem samePairs_tab {nm : String} {a b : Addr} {oa ob : Obj} {es es' : Array DictEntry} {ep ep' : Nat} {l : List (Str × Int)} {E : Value → Shared → Prop} {Q : Bool → Shared → Prop} (ha : a ≠ sysModules) (hb : b ≠ sysModules)
    (hoa : s.heap.get? a = some oa) (hda : oa.data = .dict es ep) (hob : s.heap.get? b = some ob) (hdb : ob.data = .dict es' ep') (la : tabOf es.toList = some l) (lb : tabOf es'.toList = some l) (h : Q true s) :
    wpAny (model prog w) A (Builtin.Dict.samePairs nm a b) Q E s := by
  obtain ⟨a1, a2, a3⟩ := tabOf_is la
  obtain ⟨b1, b2, b3⟩ := tabOf_is lb
  have hla : es.size = l.length := by rw [← a1]; exact Array.length_toList.symm
  have hlb : es'.size = l.length := by rw [← b1]; exact Array.length_toList.symm
  have hsz : es.size = es'.size := by rw [hla, hlb]
  have hall : (es'.all fun e => isExactStrKey e.key) = true := by
    rw [Array.all_eq_true_iff_forall_mem]
    intro x hx
    obtain ⟨y, u, e1, _⟩ := b2 x (Array.mem_toList_iff.mpr hx)
    rw [e1]; rfl
  unfold Builtin.Dict.samePairs Builtin.Dict.showsAll
  rw [if_neg (show ¬ (a == sysModules) = true by simpa using ha), if_neg (show ¬ (b == sysModules) = true by simpa using hb)]
  refine wpAny_bind (wpAny_pure (wpAny_bind (wpAny_pure ?_)))
  refine wpAny_bind (wpAny_dictEntries hoa hda ?_)
  dsimp only
  refine wpAny_bind (wpAny_dictEntries hob hdb ?_)
  rw [if_neg (by rw [hsz]; simp)]
  refine wpAny_bind (wpAny_dictEpoch hoa hda ?_)
  refine wpAny_bind ?_
  rw [Std.Legacy.Range.forIn_eq_forIn_range']
  simp only [Std.Legacy.Range.size, Nat.sub_zero, Nat.add_sub_cancel, Nat.div_one]
  refine wpAny_forIn_list _
    (fun rest q s' => s' = s ∧ q = (none, ()) ∧ ∃ i, rest = List.range' i (es.size - i) ∧ i ≤ es.size)
    _ ?_ ?_ _ _ ⟨rfl, rfl, 0, by simp, Nat.zero_le _⟩
  · rintro x rest q s' ⟨rfl, rfl, i, hr, hi⟩
    have hlt : i < es.size := by
      rcases Nat.lt_or_ge i es.size with h | h
      · exact h
      · rw [Nat.sub_eq_zero_of_le h] at hr; simp at hr
    obtain ⟨rfl, hrest⟩ : x = i ∧ rest = List.range' (i + 1) (es.size - (i + 1)) := by
      have e : es.size - i = (es.size - (i + 1)) + 1 := by lia
      rw [e, List.range'_succ] at hr
      injection hr with h1 h2
      exact ⟨h1, h2⟩
    obtain ⟨⟨y, n⟩, hy⟩ : ∃ p, l[x]? = some p := ⟨l[x]'(by lia), List.getElem?_eq_getElem (by lia)⟩
    obtain ⟨hs, u, t, e1, _⟩ := a3 x y n hy
    obtain ⟨hs', u', t', f1, f2⟩ := b3 x y n hy
    have e1' : es[x]? = some ⟨hs, .str y u, .int n t⟩ := by rw [← e1]; exact Array.getElem?_toList.symm
    have f1' : es'[x]? = some ⟨hs', .str y u', .int n t'⟩ := by rw [← f1]; exact Array.getElem?_toList.symm
    have f2' : es'.findIdx? (·.key.isStr y) = some x := by
      obtain ⟨L⟩ := es'
      simpa using f2
    refine wpAny_bind (wpAny_dictEntries hoa hda ?_)
    rw [e1']
    dsimp only
    refine wpAny_bind (wpAny_holding (wpAny_bind (dictFind_str hob hdb hall f2' f1' rfl ?_)))
    dsimp only
    refine wpAny_bind (wpAny_dictEntries hob hdb ?_)
    rw [f1']
    dsimp only
    refine wpAny_holding ((SeqAt.EqAt.int_int n t n t' : EqAt A s' (.int n t) (.int n t') _) prog w _ _ ?_)
    have : (n == n) = true := by simp
    rw [this]
    rw [if_neg (by decide)]
    refine wpAny_bind (wpAny_dictEpoch hoa hda ?_)
    rw [if_neg (by simp)]
    exact wpAny_pure ⟨rfl, rfl, x + 1, hrest, hlt⟩
  · rintro q s' ⟨rfl, rfl, i, hr, hi⟩
    exact wpAny_pure h
end
end Mine
namespace Mine
open PySem PySem.W PySem.W.X PySem.Calls PySem.Spec PySem.SeqAt
/-- a value read as data -/
inductive DtAt (h : Heap) : Nat → Dt → Value → Prop where
  | int (n : Nat) (i : Int) (t : Tok) : DtAt h (n + 1) (.int i) (.int i t)
  | tab (n : Nat) {a : Addr} {o : Obj} {es : Array DictEntry} {ep : Nat} {l : List (Str × Int)} (ho : h.get? a = some o) (hc : o.cls = .type "dict") (hd : o.data = .dict es ep) (hl : tabOf es.toList = some l) (ha : a ≠ sysModules) : DtAt h (n + 1) (.tab l) (.ref a)
  | list (n : Nat) {a : Addr} {items : Array Value} {ds : List Dt} (ho : h.IsList a items) (hl : ds.length = items.size) (hi : ∀ j (h1 : j < ds.length) (h2 : j < items.size), DtAt h n ds[j] items[j]) : DtAt h (n + 1) (.list ds) (.ref a)
theorem all_true (n : Nat) : ((List.range n).all fun _ => true) = true := List.all_eq_true.mpr fun _ _ => rfl
section
variable {prog : Program} {w : World} {A : Around} {s : Shared}
theorem rcAt_tab {a b : Addr} {oa ob : Obj} {es es' : Array DictEntry} {ep ep' : Nat} {l : List (Str × Int)} (ha : a ≠ sysModules) (hb : b ≠ sysModules)
    (hoa : s.heap.get? a = some oa) (hca : oa.cls = .type "dict") (hda : oa.data = .dict es ep) (hob : s.heap.get? b = some ob) (hcb : ob.cls = .type "dict") (hdb : ob.data = .dict es' ep') (la : tabOf es.toList = some l) (lb : tabOf es'.toList = some l) (hu : A.units < cLine) :
    RcAt A s (.ref a) (.ref b) true := fun prog w E Q h => by
  have Ta : s.TypeIs (.ref a) "dict" := ⟨oa, hoa, hca⟩
  have Tb : s.TypeIs (.ref b) "dict" := ⟨ob, hob, hcb⟩
  refine wpAny_richCompare_same_room (op := .Eq) Ta Tb PySem.F.slot_dict_eq (wpAny_call_entry PySem.F.slot_dict_eq Ta PySem.F.entry_dict_eq ?_ (PySem.F.args_dict_eq_2 _ _)) hu
  show wpAny _ _ (Builtin.Dict.dictSlotArgs "__eq__" ⟨[.ref a, .ref b], []⟩ >>= _) _ _ s
  refine wpAny_bind ?_
  unfold Builtin.Dict.dictSlotArgs
  refine wpAny_bind (wpAny_notOrdered_dict Ta ?_)
  show wpAny _ _ (pure (Value.ref a, Value.ref b)) _ _ s
  refine wpAny_pure ?_
  refine wpAny_bind (wpAny_isInstance (T := "dict") Tb PySem.F.sub_dict_dict ?_)
  simp only [Bool.not_true, Bool.false_eq_true, if_false]
  refine wpAny_bind (wpAny_pure (wpAny_bind (wpAny_pure ?_)))
  refine wpAny_bind (samePairs_tab ha hb hoa hda hob hdb la lb ?_)
  exact wpAny_pure ⟨_, rfl, (fun x => nomatch x), h⟩
theorem eqAt_data {h : Heap} {n : Nat} {d : Dt} {v : Value} (D : DtAt h n d v) : ∀ {n' : Nat} {v' : Value} (_ : DtAt h n' d v') (A : Around) (s : Shared), s.heap = h → A.units + n < cLine → EqAt A s v v' true := by
  induction D with
  | int n i t =>
    intro n' v' D' A s hs hu
    cases D' with
    | int _ _ t' =>
      have := SeqAt.EqAt.int_int (A := A) (s := s) i t i t'
      simpa using this
  | @tab n a o es ep l ho hc hd hl ha =>
    intro n' v' D' A s hs hu
    cases D' with
    | @tab n' a' o' es' ep' _ ho' hc' hd' hl' ha' =>
      by_cases e : a = a'
      · subst e; exact EqAt.same _
      · exact EqAt.of_refs e (rcAt_tab ha ha' (hs ▸ ho) hc hd (hs ▸ ho') hc' hd' hl hl' (by lia))
  | @list n a items ds ho hl hi ih =>
    intro n' v' D' A s hs hu
    cases D' with
    | @list n' a' items' _ ho' hl' hi' =>
      by_cases e : a = a'
      · subst e; exact EqAt.same _
      · refine EqAt.of_refs e ?_
        have := RcAt.lists (A := A) (s := s) (e := fun _ => true) (hs ▸ ho) (hs ▸ ho') (by lia) (by lia) fun j h1 h2 => ih j (by lia) h1 (hi' j (by lia) h2) A.in1 s hs (by show A.units + 1 + n < cLine; lia)
        rw [all_true] at this
        exact this
theorem rcAt_data {h : Heap} {n n' : Nat} {d : Dt} {a a' : Addr} (D : DtAt h n d (.ref a)) (D' : DtAt h n' d (.ref a')) (hs : s.heap = h) (hu : A.units + n < cLine) : (∃ ds, d = .list ds) → RcAt A s (.ref a) (.ref a') true ∧ RcNeAt A s (.ref a) (.ref a') false := by
  rintro ⟨ds, rfl⟩
  cases D with
  | @list n _ items _ ho hl hi =>
    cases D' with
    | @list n' _ items' _ ho' hl' hi' =>
      have he : ∀ j (h1 : j < items.size) (h2 : j < items'.size), EqAt A.in1 s items[j] items'[j] ((fun _ => true) j) := fun j h1 h2 => eqAt_data (hi j (by lia) h1) (hi' j (by lia) h2) A.in1 s hs (by show A.units + 1 + n < cLine; lia)
      refine ⟨?_, ?_⟩
      · have := RcAt.lists (A := A) (s := s) (e := fun _ => true) (hs ▸ ho) (hs ▸ ho') (by lia) (by lia) he
        rw [all_true] at this
        exact this
      · have := RcNeAt.lists (A := A) (s := s) (e := fun _ => true) (hs ▸ ho) (hs ▸ ho') (by lia) (by lia) he
        rw [all_true] at this
        exact this
end
section
variable {prog : Program} {w : World} {E : Ev} {h₀ h : Heap} {T : GT} {m : Nat}
theorem allQ_cat {q r : List (Addr × Nat)} (hq : allQ E (catQ q r)) : allQ E q ∧ allQ E r := by
  induction q with
  | nil => exact ⟨fun p hp => (nomatch hp), hq⟩
  | cons x q ih =>
    obtain ⟨h1, h2⟩ := ih fun p hp => hq p (.tail _ hp)
    refine ⟨fun p hp => ?_, h2⟩
    rcases List.mem_cons.mp hp with rfl | hp
    · exact hq _ (.head _)
    · exact h1 p hp
theorem noMods_cat {q r : List (Addr × Nat)} (hq : noMods (catQ q r)) : noMods q ∧ noMods r := by
  induction q with
  | nil => exact ⟨trivial, hq⟩
  | cons x q ih =>
    obtain ⟨h1, h2⟩ := ih hq.2
    exact ⟨⟨hq.1, h1⟩, h2⟩
theorem readAll_is {f : Value → Nat → Option RD} {G : Dt → Value → Prop} (hf : ∀ v ts d q ts', f v ts = some ⟨d, q, ts'⟩ → allQ E q → noMods q → G d v) : ∀ (l : List Value) (ts : Nat) (ds : List Dt) (q : List (Addr × Nat)) (ts' : Nat),
    readAll f l ts = some ⟨ds, q, ts'⟩ → allQ E q → noMods q → ds.length = l.length ∧ ∀ j (h1 : j < ds.length) (h2 : j < l.length), G ds[j] l[j]
  | [], ts, ds, q, ts', e, _, _ => by
    cases e
    exact ⟨rfl, fun j h1 _ => by simp at h1⟩
  | v :: l, ts, ds, q, ts', e, hq, hn => by
    unfold readAll at e
    split at e
    · rename_i d q1 ts1 e1
      split at e
      · rename_i ds2 q2 ts2 e2
        cases e
        obtain ⟨hq1, hq2⟩ := allQ_cat hq
        obtain ⟨hn1, hn2⟩ := noMods_cat hn
        obtain ⟨h1, h2⟩ := readAll_is hf l _ _ _ _ e2 hq2 hn2
        refine ⟨by simp [h1], fun j j1 j2 => ?_⟩
        cases j with
        | zero => exact hf _ _ _ _ _ e1 hq1 hn1
        | succ j => exact h2 j (by simpa using j1) (by simpa using j2)
      · cases e
    · cases e
theorem readD_is (O : EvH prog w E h₀) (D : RepM E h₀ h T m) : ∀ (n : Nat) (v : Value) (ts : Nat) (d : Dt) (q : List (Addr × Nat)) (ts' : Nat), readD E T n v ts = some ⟨d, q, ts'⟩ → allQ E q → noMods q → DtAt h n d v
  | 0, v, ts, d, q, ts', e, _, _ => by cases e
  | n + 1, v, ts, d, q, ts', e, hq, hn => by
    unfold readD at e
    split at e
    · cases e
      exact .int n _ _
    · rename_i a
      split at e
      · rename_i cn dd es ep sl hl
        split at e
        · rename_i qc
          split at e
          · rename_i l ht
            cases e
            exact .tab n (D.look O hl (hq _ (.head _))) (by rw [nm_is "dict" qc (by decide +kernel)]) rfl ht hn.1
          · cases e
        · cases e
      · rename_i cn dd xs k sl hl
        split at e
        · rename_i qc
          split at e
          · rename_i ds qs ts1 hr
            cases e
            obtain ⟨h1, h2⟩ := readAll_is (G := DtAt h n) (readD_is O D n) xs _ _ _ _ hr (fun p hp => hq p (.tail _ hp)) hn.2
            refine .list n (items := ⟨xs⟩) ⟨_, D.look O hl (hq _ (.head _)), by rw [nm_is "list" qc (by decide +kernel)], _, rfl⟩ (by simpa using h1) fun j j1 j2 => h2 j j1 j2
          · cases e
        · cases e
      · cases e
    · cases e
theorem cmp2_ok {op : CmpOp} {a b : Value} {os : List Orc} {ts : Nat} {o : COut} (e : cmp2 E T op a b os ts = some o) : CmpSays prog w E T op a b o := by
  unfold cmp2 at e
  split at e
  · split at e
    · rename_i _ a' _ b'
      split at e
      · rename_i da qa ts1 e1
        split at e
        · rename_i db qb ts2 e2
          split at e
          · rename_i ds
            have key : ∀ (A : Around) (h₀ h : Heap) (m : Nat), A.units + 64 < cLine → EvH prog w E h₀ → RepM E h₀ h T m → Dt.list ds = db → noMods qa → noMods qb → allQ E (catQ qa qb) → ∀ s : Shared, s.heap = h → RcAt A s (.ref a') (.ref b') true ∧ RcNeAt A s (.ref a') (.ref b') false := by
              intro A h₀ h m hu O D hd n1 n2 hq s hs
              obtain ⟨q1, q2⟩ := allQ_cat hq
              have D1 := readD_is O D _ _ _ _ _ _ e1 q1 n1
              have D2 := readD_is O D _ _ _ _ _ _ e2 q2 n2
              rw [← hd] at D2
              exact rcAt_data D1 D2 hs (by lia) ⟨ds, rfl⟩
            split at e
            · cases e
              intro hP hq A h₀ h m g d tk ox Q hu O D hQ
              obtain ⟨hd, n1, n2⟩ := (hP : Dt.list ds = db ∧ noMods qa ∧ noMods qb)
              exact (key A h₀ h m hu O D hd n1 n2 hq ⟨h, g, d, tk, ox⟩ rfl).1 prog w _ Q hQ
            · cases e
              intro hP hq A h₀ h m g d tk ox Q hu O D hQ
              obtain ⟨hd, n1, n2⟩ := (hP : Dt.list ds = db ∧ noMods qa ∧ noMods qb)
              exact (key A h₀ h m hu O D hd n1 n2 hq ⟨h, g, d, tk, ox⟩ rfl).2 prog w _ Q hQ
            · cases e
          · cases e
        · cases e
      · cases e
    · cases e
  · cases e
end
end Mine
namespace Mine
open PySem PySem.W PySem.W.X PySem.Calls PySem.Spec
section
variable {prog : Program} {w : World} {E : Ev}
theorem fun_code {A : Around} {s : Shared} {R : Result → Shared → Prop} {id : String} {b : Builtin} {args : List Value} (hk : builtinKind id = none) (hp : plainId id = true) (hb : entryFor table id = some b) (ha : argsOk id ⟨args, []⟩)
    (hc : wpAny (model prog w) A.in1 (b ⟨args, []⟩) (fun fin s' => ∃ v, fin = .done (.ret v) ∧ R (.ok (.ret v)) s') (fun e s' => R (.error e) s') s) : codeAny (model prog w) A (.call (.builtin id) ⟨args, []⟩) R s := by
  refine codeAny_call_builtin hp hb ?_
  have hfin := wpAny_mono hc (Q' := fun fin s' => match fin with
      | .done f => R (.ok f) s'
      | .again c' => c'.quiet = true ∧ codeAny (model prog w) A c' R s')
    (fun fin s' h' => by obtain ⟨v, rfl, hv⟩ := h'; exact hv) fun _ _ h' => h'
  simp only [checkBuiltinCall, hk]
  cases hsig : Manifest.signature? id with
  | none => exact wpAny_pure hfin
  | some sig =>
    simp only [argsOk, hsig] at ha
    have h2 : Bind.checkArgs id sig ⟨args, []⟩ = pure () := ha
    show wpAny _ A.in1 (Bind.checkArgs id sig ⟨args, []⟩) _ _ s
    rw [h2]; exact wpAny_pure hfin
theorem len_ok {v : Value} {T id : String} {B : Builtin} {n : Int} {A : Around} {s : Shared} {R : Result → Shared → Prop} (hT : s.TypeIs v T) (slot : Slot T "__len__" id)
    (entry : entryFor table id = some B) (args : argsOk id ⟨[v], []⟩) (g : Gives (B ⟨[v], []⟩) (.int n)) (h0 : ¬ n < 0) (hfit : ¬ n ≥ 2 ^ 63)
    (h : R (.ok (.ret (.int n (s.toks + 1)))) { s with toks := s.toks + 1 + 1 }) : codeAny (model prog w) A (.call (.builtin "len") ⟨[v], []⟩) R s := by
  refine fun_code kind_len plain_len entry_len (args_len1 _) ?_
  unfold Builtin.«len»
  refine wpAny_bind (m := oneArg "len" _) (wpAny_pure ?_)
  refine wpAny_bind (m := callSpecial? v (Str.ofString "__len__")) (wpAny_callSpecial?_slot (name := Str.ofString "__len__") hT slot (call_gives slot hT entry args g ?_))
  show wpAny _ _ _ _ _ { s with toks := s.toks + 1 }
  refine wpAny_bind (wpAny_holding (wpAny_pure ?_))
  refine wpAny_bind (wpAny_letGo ?_)
  show wpAny _ _ (if n < 0 then _ else _) _ _ _
  rw [if_neg h0]
  show wpAny _ _ (if n ≥ 2 ^ 63 then _ else _) _ _ _
  rw [if_neg hfit]
  exact wpAny_bind (wpAny_mkInt (wpAny_pure ⟨_, rfl, h⟩))
theorem len_list_ok {l : Addr} {items : Array Value} {A : Around} {s : Shared} {R : Result → Shared → Prop} (hl : s.heap.IsList l items) (hfit : (items.size : Int) < 2 ^ 63)
    (h : R (.ok (.ret (.int items.size (s.toks + 1)))) { s with toks := s.toks + 1 + 1 }) : codeAny (model prog w) A (.call (.builtin "len") ⟨[.ref l], []⟩) R s := by
  obtain ⟨o, ho, hc, n, hd⟩ := id hl
  refine fun_code kind_len plain_len entry_len (args_len1 _) ?_
  unfold Builtin.«len»
  refine wpAny_bind (m := oneArg "len" _) (wpAny_pure ?_)
  refine wpAny_bind (m := callSpecial? (.ref l) (Str.ofString "__len__")) (wpAny_callSpecial?_slot (name := Str.ofString "__len__") hl.typeIs slot_list_len
    (wpAny_call_entry slot_list_len hl.typeIs entry_list_len ?_ (args_list_len _)))
  show wpAny _ _ (do retInt (← seqSize l)) _ _ s
  unfold seqSize
  refine wpAny_bind (wpAny_bind (wpAny_load ho ?_))
  rw [hd]
  refine wpAny_pure (wpAny_bind (wpAny_mkInt (wpAny_pure ⟨_, rfl, ?_⟩)))
  refine wpAny_bind (wpAny_holding (wpAny_pure ?_))
  refine wpAny_bind (wpAny_letGo ?_)
  show wpAny _ _ (if ((items.size : Nat) : Int) < 0 then _ else _) _ _ _
  rw [if_neg (by lia)]
  show wpAny _ _ (if ((items.size : Nat) : Int) ≥ 2 ^ 63 then _ else _) _ _ _
  rw [if_neg (by lia)]
  exact wpAny_bind (wpAny_mkInt (wpAny_pure ⟨_, rfl, h⟩))
theorem isListO_is {o : Option Obj} (h : isListO o = true) : ∃ ob items n, o = some ob ∧ ob.cls = .type "list" ∧ ob.data = .seq items n := by
  unfold isListO at h
  split at h
  · exact ⟨_, _, _, rfl, by rw [nm_is "list" h (by decide +kernel)], rfl⟩
  · cases h
theorem leafLen_ok {id : String} {l : Addr} {T : GT} {i : Nat} {os : List Orc} {ts : Nat} {o : HOut} (e : leafLen E (nm id) l T i os ts = some o) :
    LeafSays prog w E (.call (.builtin id) ⟨[.ref l], []⟩) T i o := by
  unfold leafLen at e
  split at e
  · split at e
    · rename_i q
      have := nm_is "len" q (by decide +kernel)
      subst this
      split at e
      · cases e
      · split at e
        · rename_i hl
          cases e
          intro hA hq A h₀ h m g d ox R _ O D _ hR
          obtain ⟨ob, items, n, e1, e2, e3⟩ := isListO_is hl
          have ho := D.look O e1 (hq _ (.head _))
          obtain ⟨hs, hp⟩ := (hA : sizeOf (lookT E T l (tagN E l ts)) = some _ ∧ _)
          rw [e1] at hs
          obtain ⟨oc, od, odt, osl⟩ := ob
          simp only at e3
          subst e3
          have hz := Option.some.inj hs
          refine len_list_ok (s := ⟨h, g, d, E.t₀ + i, ox⟩) (items := items) ⟨_, ho, e2, n, rfl⟩ (by have : (items.size : Int) = _ := hz; lia) ?_
          have hz' : (items.size : Int) = _ := hz
          rw [hz']
          exact hR h D
        · cases e
    · cases e
  · cases e
theorem leafL_ok {id : String} {l : Addr} {v : Value} {T : GT} {i : Nat} {os : List Orc} {ts : Nat} {o : HOut} (e : leafL E (nm id) l v T i os ts = some o) :
    LeafSays prog w E (.call (.builtin id) ⟨[.ref l, v], []⟩) T i o := by
  unfold leafL at e
  split at e
  · rename_i k tk
    split at e
    · rename_i q
      have := nm_is "list.__getitem__" q (by decide +kernel)
      subst this
      split at e
      · rename_i hl
        have main : ∀ (x : Value) (os' : List Orc), LeafSays prog w E (.call (.builtin "list.__getitem__") ⟨[.ref l, .int k tk], []⟩) T i ⟨some (0 ≤ k ∧ k < 9223372036854775808 ∧ itemOf (lookT E T l (tagN E l ts)) k.toNat = some x), [(l, tagN E l ts)], x, T, i, os', tagR E ts, none⟩ := by
          intro x os' hA hq A h₀ h m g d ox R _ O D _ hR
          obtain ⟨ob, items, n, e1, e2, e3⟩ := isListO_is hl
          have ho := D.look O e1 (hq _ (.head _))
          obtain ⟨h0, h1, hx⟩ := (hA : 0 ≤ k ∧ k < 9223372036854775808 ∧ itemOf (lookT E T l (tagN E l ts)) k.toNat = some x)
          rw [e1] at hx
          have hx' : items[k.toNat]? = some x := by
            obtain ⟨oc, od, odt, osl⟩ := ob
            simp only at e3
            subst e3
            exact hx
          have hT : (⟨h, g, d, E.t₀ + i, ox⟩ : Shared).TypeIs (.ref l) "list" := ⟨_, ho, e2⟩
          refine meets_code slot_list_getitem hT entry_list_getitem (args_list_getitem _ _) ?_
          show wpAny _ _ (Builtin.List.listSubscript? (.int k tk) >>= _) _ _ _
          refine wpAny_bind (wpAny_listSubscript_int (fitsIndex_of h0 (by lia)) ?_)
          obtain ⟨j, rfl⟩ := Int.eq_ofNat_of_zero_le h0
          show wpAny _ _ ((seqItemAt l j >>= fun r => pure (r.map (j, ·))) >>= _) _ _ _
          refine wpAny_bind (wpAny_bind (wpAny_seqItemAt (s := ⟨h, g, d, E.t₀ + i, ox⟩) ho e3 (wpAny_pure ?_)))
          have hx2 : items[j]? = some x := hx'
          rw [hx2]
          exact wpAny_pure ⟨x, rfl, hR h D⟩
        split at e
        · split at e
          · cases e; exact main _ _
          · cases e
        · split at e
          · cases e
          · cases e; exact main _ _
        · cases e
      · cases e
    · cases e
  · cases e
theorem leafS_ok {id : String} {x : Str} {t : Tok} {T : GT} {i : Nat} {os : List Orc} {ts : Nat} {o : HOut} (e : leafS E (nm id) x T i os ts = some o) :
    LeafSays prog w E (.call (.builtin id) ⟨[.str x t], []⟩) T i o := by
  unfold leafS at e
  split at e
  · rename_i q
    have := nm_is "len" q (by decide +kernel)
    subst this
    cases e
    intro hA _ A h₀ h m g d ox R _ _ D _ hR
    have hA' : x.cps.size < 100000 := hA
    refine len_ok (typeIs_str _ _ _) F.slot_str_len F.entry_str_len (F.args_str_len_1 _) (gives_str_len x t) (by lia) (by show ¬ ((x.cps.size : Nat) : Int) ≥ 2 ^ 63; lia) ?_
    exact hR h D
  · cases e
theorem rep_size_from (a : Array Nat) : ∀ (n : Nat) (b : Array Nat), ((List.replicate n a).foldl (· ++ ·) b).size = b.size + n * a.size
  | 0, b => by simp
  | n + 1, b => by
    rw [List.replicate_succ, List.foldl_cons, rep_size_from a n, Array.size_append, Nat.succ_mul]
    lia
theorem rep_size (a : Array Nat) (n : Nat) : ((List.replicate n a).foldl (· ++ ·) #[]).size = n * a.size := by
  rw [rep_size_from]; simp
theorem leafSI_ok {id : String} {x : Str} {t : Tok} {k : Int} {tk : Tok} {T : GT} {i : Nat} {os : List Orc} {ts : Nat} {o : HOut} (e : leafSI E (nm id) x t k T i os ts = some o) :
    LeafSays prog w E (.call (.builtin id) ⟨[.str x t, .int k tk], []⟩) T i o := by
  unfold leafSI at e
  split at e
  · rename_i q
    have := nm_is "str.__mul__" q (by decide +kernel)
    subst this
    cases e
    intro hA _ A h₀ h m g d ox R _ _ D _ hR
    obtain ⟨h1, h2, h3⟩ := (hA : x.cps.size = 1 ∧ 1 ≤ k ∧ k < 1000)
    have hx : x.length = 1 := h1
    refine gives_code F.slot_str_mul (typeIs_str _ _ _) F.entry_str_mul (F.args_str_mul_2 _ _) (gives_str_mul x k t tk (by simp; lia) (fun _ _ => ?_) (fun _ _ => ?_)) ?_
    · rw [hx]
      intro hh
      have : (1 : Int) ≤ (2 ^ 63 - 1) / k := by
        rw [Int.le_ediv_iff_mul_le (by lia)]
        lia
      lia
    · rw [hx]
      unfold Builtin.Str.tooLong sizeLine
      simp
      lia
    · rw [if_neg (by lia)]
      by_cases hk : k = 1
      · subst hk
        rw [if_pos (by simp)]
        exact hR h D
      · have e1 : (k == 1 || x.length == 0) = false := by rw [hx]; simp [hk]
        rw [if_neg (by rw [e1]; simp)]
        refine ⟨?_, ?_⟩
        · show ((List.replicate k.toNat x.cps).foldl (· ++ ·) #[]).size ≤ sizeLine
          rw [rep_size, h1]
          unfold sizeLine
          simp
          lia
        · have := hR h D
          have e2 : decide (k = 1) = false := by simp [hk]
          simp only [e2] at this
          exact this
  · cases e
end
end Mine
namespace Mine
open PySem PySem.W PySem.W.X PySem.StrLaws PySem.Builtin PySem.Builtin.Str
noncomputable def crlf : Str := ⟨#[13, 10]⟩
noncomputable def occR : List Nat → Nat → Nat → List Nat
  | [], _, _ => []
  | c :: R, p, free => if free ≤ p ∧ c = 13 ∧ R.head? = some 10 then p :: occR R (p + 1) (p + 2) else occR R (p + 1) free
theorem occ_fold (x : Str) (limit : Nat) : ∀ (R : List Nat) (p free : Nat) (found : Array Nat), x.cps.toList.drop p = R → p + R.length = x.length → found.size + R.length < limit →
    (forIn (List.range' p (R.length + 1)) (found, free) (occBody x crlf x.length limit)).run.fst.toList = found.toList ++ occR R p free
  | [], p, free, found, hR, hp, hl => by
    have hpl : p = x.length := by simpa using hp
    show (forIn [p] (found, free) (occBody x crlf x.length limit)).run.fst.toList = _
    rw [List.forIn_cons]
    unfold occBody
    have h2 : crlf.length = 2 := rfl
    rw [if_neg (by rw [h2]; lia)]
    simp [occR]
  | c :: R, p, free, found, hR, hp, hl => by
    have e1 : List.range' p ((c :: R).length + 1) = p :: List.range' (p + 1) (R.length + 1) := by
      rw [List.length_cons, List.range'_succ]
    rw [e1, List.forIn_cons]
    have h2 : crlf.length = 2 := rfl
    have hR' : x.cps.toList.drop (p + 1) = R := by
      rw [← List.drop_drop, hR]; rfl
    have hp' : p + 1 + R.length = x.length := by rw [← hp, List.length_cons]; lia
    have hs : subAt x crlf p = true ↔ c = 13 ∧ R.head? = some 10 := by
      rw [subAt_eq, hR, h2]
      show ((c :: R).take 2 == [13, 10]) = true ↔ _
      cases R with
      | nil => simp
      | cons d R => simp
    simp only [List.length_cons] at hl
    unfold occBody
    by_cases hc : free ≤ p ∧ c = 13 ∧ R.head? = some 10
    · have hR2 : 1 ≤ R.length := by
        cases R with
        | nil => simp at hc
        | cons => simp
      rw [if_pos ⟨⟨⟨by simp only; lia, hc.1⟩, by rw [h2]; lia⟩, hs.mpr hc.2⟩]
      have ih := occ_fold x limit R (p + 1) (p + 2) (found.push p) hR' hp' (by rw [Array.size_push]; lia)
      unfold occR
      rw [if_pos hc]
      refine ih.trans ?_
      simp
    · rw [if_neg (fun h => hc ⟨h.1.1.2, hs.mp h.2⟩)]
      have ih := occ_fold x limit R (p + 1) free found hR' hp' (by lia)
      unfold occR
      rw [if_neg hc]
      exact ih
theorem occ_is (x : Str) : occurrences x crlf 0 x.length (x.length + 1) = occR x.cps.toList 0 0 := by
  rw [occ_eq]
  have hn : x.cps.toList.length = x.length := by simp [Str.length]
  have := occ_fold x (x.length + 1) x.cps.toList 0 0 #[] rfl (by lia) (by rw [hn]; simp)
  rw [hn] at this
  simpa using this
noncomputable def cutsAt : Nat → List Str → List Nat
  | _, [] => []
  | _, [_] => []
  | p, s :: l => (p + s.cps.toList.length) :: cutsAt (p + s.cps.toList.length + 2) l
theorem occR_plain : ∀ (s : List Nat) (R : List Nat) (p free : Nat), 13 ∉ s → occR (s ++ R) p free = occR R (p + s.length) free
  | [], R, p, free, _ => rfl
  | c :: s, R, p, free, h => by
    have hc : c ≠ 13 := fun e => h (e ▸ .head _)
    show (if free ≤ p ∧ c = 13 ∧ (s ++ R).head? = some 10 then _ else occR (s ++ R) (p + 1) free) = _
    rw [if_neg (fun x => hc x.2.1), occR_plain s R (p + 1) free fun x => h (.tail _ x)]
    rw [List.length_cons]
    congr 1
    lia
theorem occR_glue : ∀ (l : List Str) (p free : Nat), free ≤ p → (∀ x ∈ l, 13 ∉ x.cps.toList) → occR (glue l) p free = cutsAt p l
  | [], _, _, _, _ => rfl
  | [s], p, free, _, h => by
    have := occR_plain s.cps.toList [] p free (h s (.head _))
    rw [List.append_nil] at this
    exact this
  | s :: s' :: l, p, free, hf, h => by
    show occR (s.cps.toList ++ 13 :: 10 :: glue (s' :: l)) p free = (p + s.cps.toList.length) :: cutsAt (p + s.cps.toList.length + 2) (s' :: l)
    rw [occR_plain _ _ _ _ (h s (.head _))]
    have hq : free ≤ p + s.cps.toList.length := by lia
    have e1 : occR (13 :: 10 :: glue (s' :: l)) (p + s.cps.toList.length) free = (p + s.cps.toList.length) :: occR (10 :: glue (s' :: l)) (p + s.cps.toList.length + 1) (p + s.cps.toList.length + 2) := by
      show (if free ≤ p + s.cps.toList.length ∧ (13 : Nat) = 13 ∧ (10 :: glue (s' :: l)).head? = some 10 then _ else _) = _
      rw [if_pos ⟨hq, rfl, rfl⟩]
    have e2 : ∀ q : Nat, occR (10 :: glue (s' :: l)) (q + 1) (q + 2) = occR (glue (s' :: l)) (q + 2) (q + 2) := by
      intro q
      show (if q + 2 ≤ q + 1 ∧ (10 : Nat) = 13 ∧ _ then _ else occR (glue (s' :: l)) (q + 1 + 1) (q + 2)) = _
      rw [if_neg (fun h => by lia)]
    rw [e1, e2, occR_glue (s' :: l) _ _ (Nat.le_refl _) fun x hx => h x (.tail _ hx)]
theorem sub_drop (x s : Str) (p : Nat) (R : List Nat) (h : x.cps.toList.drop p = s.cps.toList ++ R) : strSub x p (p + s.cps.toList.length) = s := by
  apply Str.ext'
  apply Array.toList_inj.mp
  rw [strSub_toList, h, Nat.add_sub_cancel_left, List.take_left]
theorem parts_is (x : Str) : ∀ (l : List Str) (p : Nat), l ≠ [] → x.cps.toList.drop p = glue l → p + (glue l).length = x.length → partsFrom x 2 p (cutsAt p l) = l
  | [], p, h, _, _ => absurd rfl h
  | [s], p, _, hd, hp => by
    show [strSub x p x.length] = [s]
    have e : x.length = p + s.cps.toList.length := hp.symm
    rw [e, sub_drop x s p [] (by rw [List.append_nil]; exact hd)]
  | s :: s' :: l, p, _, hd, hp => by
    have hd' : x.cps.toList.drop p = s.cps.toList ++ 13 :: 10 :: glue (s' :: l) := hd
    have hl : (glue (s :: s' :: l)).length = s.cps.toList.length + 2 + (glue (s' :: l)).length := by
      show (s.cps.toList ++ 13 :: 10 :: glue (s' :: l)).length = _
      simp; lia
    show strSub x p (p + s.cps.toList.length) :: partsFrom x 2 (p + s.cps.toList.length + 2) (cutsAt (p + s.cps.toList.length + 2) (s' :: l)) = _
    rw [sub_drop x s p _ hd', parts_is x (s' :: l) (p + s.cps.toList.length + 2) (fun h => nomatch h) ?_ (by rw [← hp, hl]; lia)]
    rw [Nat.add_assoc, ← List.drop_drop, hd', ← List.drop_drop, List.drop_left]
    rfl
/-- what split says -/
theorem split_is {x : Str} {l : List Str} (h : splitSays x crlf l) : partsBetween x (occurrences x crlf 0 x.length (x.length + 1)) 2 = l ∧ (occurrences x crlf 0 x.length (x.length + 1)).isEmpty = false ∧ 2 ≤ x.length := by
  obtain ⟨_, h1, h2, h3, h4⟩ := h
  have hn : x.cps.toList.length = x.length := by simp [Str.length]
  have hl : l ≠ [] := by intro e; subst e; simp at h2
  rw [partsBetween_eq, occ_is, h1, occR_glue l 0 0 (Nat.le_refl _) h4]
  refine ⟨parts_is x l 0 hl h1 (by rw [← h1, hn]; lia), ?_, ?_⟩
  · match l, h2 with
    | s :: s' :: l, _ => rfl
  · match l, h2, h1 with
    | s :: s' :: l, _, h1 =>
      rw [← hn, h1]
      show 2 ≤ (s.cps.toList ++ 13 :: 10 :: glue (s' :: l)).length
      simp; lia
end Mine
namespace Mine
open PySem PySem.W PySem.W.X PySem.Calls PySem.Spec PySem.Builtin PySem.Builtin.Str
section
variable {prog : Program} {w : World} {E : Ev}
theorem spec_code {A : Around} {s : Shared} {R : Result → Shared → Prop} {T : String} {name : Str} {id : String} {B : Builtin} {self : Value} {rest : List Value} {S : PySem.Spec} (slot : Slot T name id) (hT : s.TypeIs self T)
    (entry : entryFor table id = some B) (args : argsOk id ⟨self :: rest, []⟩) (g : Meets (B ⟨self :: rest, []⟩) S) (h : S A R s) :
    codeAny (model prog w) A (.call (.builtin id) ⟨self :: rest, []⟩) R s :=
  codeAny_call_builtin slot.plain entry (slot.check _ _ _ _ _ _ _ _ hT args (g prog w A R s h))
theorem strsFrom_is : ∀ (l : List Str) (t : Nat), strsFrom t l = textVs l t
  | [], _ => rfl
  | s :: l, t => by show _ :: strsFrom (t + 1) l = _ :: textVs l (t + 1); rw [strsFrom_is l]
theorem strKind_pos (s : Str) : ¬ PySem.Builtin.Str.strKind s < PySem.Builtin.Str.strKind crlf := by
  have h : PySem.Builtin.Str.strKind crlf = 1 := by decide +kernel
  rw [h]
  unfold PySem.Builtin.Str.strKind
  split
  · lia
  · split <;> lia
theorem leafSS_ok {id : String} {x : Str} {t : Tok} {z : Str} {u : Tok} {T : GT} {i : Nat} {os : List Orc} {ts : Nat} {o : HOut} (e : leafSS E (nm id) x z T i os ts = some o) :
    LeafSays prog w E (.call (.builtin id) ⟨[.str x t, .str z u], []⟩) T i o := by
  unfold leafSS at e
  split at e
  · rename_i q
    have := nm_is "str.__add__" q (by decide +kernel)
    subst this
    cases e
    intro hA _ A h₀ h m g d ox R _ _ D _ hR
    obtain ⟨h1, h2, h3⟩ := (hA : x.cps.size ≠ 0 ∧ z.cps.size ≠ 0 ∧ x.cps.size + z.cps.size < 100000)
    refine gives_code F.slot_str_add (typeIs_str _ _ _) F.entry_str_add (F.args_str_add_2 _ _) (gives_str_add x z t u) ?_
    have e1 : (x.length == 0) = false := by simpa [Str.length] using h1
    have e2 : (z.length == 0) = false := by simpa [Str.length] using h2
    rw [e1, e2]
    refine ⟨?_, hR h D⟩
    show (x.cps ++ z.cps).size ≤ sizeLine
    rw [Array.size_append]
    unfold sizeLine
    lia
  · split at e
    · rename_i q
      have := nm_is "str.split" q (by decide +kernel)
      subst this
      split at e
      · rename_i l os'
        cases e
        intro hA _ A h₀ h m g d ox R _ O D hm hR
        have hs : splitSays x z l := hA
        have hz : z = crlf := hs.1
        subst hz
        obtain ⟨p1, p2, p3⟩ := split_is hs
        obtain ⟨_, hg, hl2, hsz, _⟩ := hs
        have hcl : crlf.length = 2 := rfl
        have hlen : l.length ≤ 100001 := by
          have := StrLaws.occ_length_le_len x crlf 0 x.length (x.length + 1)
          have h4 := length_partsBetween x (occurrences x crlf 0 x.length (x.length + 1)) 2
          rw [p1] at h4
          have : x.length < 100000 := hsz
          lia
        refine spec_code F.slot_str_split (typeIs_str _ _ _) F.entry_str_split (F.args_str_split_2 _ _) (meets_str_split_sep x crlf t u ?_ (by decide) p2 ?_ ?_) ?_
        · have k1 : ¬ x.length < crlf.length := by rw [hcl]; lia
          have k2 := strKind_pos x
          simp [k1, k2]
        · have : x.length < 100000 := hsz
          unfold sizeLine; lia
        · rw [hcl, p1]; unfold sizeLine; lia
        · rw [hcl, p1, strsFrom_is]
          obtain ⟨hm1, hm2⟩ := hm fun x => nomatch x
          have := hR _ (D.alloc O (o := { cls := .type "list", data := .seq ⟨textVs l (E.t₀ + i)⟩ }) rfl hm1 hm2)
          rw [show HOut.outV _ E m = Value.ref (E.ad m) from rfl, ← D.size] at this
          show R _ ⟨_, g, d, E.t₀ + i + l.length, ox⟩
          rw [Nat.add_assoc]
          exact this
      · cases e
    · cases e
theorem lastSlice_is {o : Option Obj} (h : lastSlice o = true) : ∃ ob t, o = some ob ∧ ob.cls = .type "slice" ∧ ob.data = .fields #[.int (-1) t, .none, .none] := by
  unfold lastSlice at h
  split at h
  · split at h
    · rename_i q
      split at h
      · exact ⟨_, _, rfl, by rw [nm_is "slice" q (by decide +kernel)], rfl⟩
      · cases h
    · cases h
  · cases h
theorem textsOf_is : ∀ {xs : List Value} {l : List Str}, textsOf xs = some l → ∃ p : List (Str × Tok), xs = strValues p ∧ p.map (·.1) = l
  | [], l, h => by cases h; exact ⟨[], rfl, rfl⟩
  | v :: xs, l, h => by
    unfold textsOf at h
    split at h
    · rename_i s t
      split at h
      · rename_i r hr
        cases h
        obtain ⟨p, e1, e2⟩ := textsOf_is hr
        exact ⟨(s, t) :: p, by rw [e1]; rfl, by rw [← e2]; rfl⟩
      · cases h
    · cases h
theorem textsAt_is {o : Option Obj} {l : List Str} (h : textsAt o = some l) : ∃ ob p n, o = some ob ∧ ob.cls = .type "list" ∧ ob.data = .seq (strValues p).toArray n ∧ p.map (·.1) = l := by
  unfold textsAt at h
  split at h
  · rename_i cn dd xs n sl
    split at h
    · rename_i q
      obtain ⟨p, e1, e2⟩ := textsOf_is h
      exact ⟨_, p, n, rfl, by rw [nm_is "list" q (by decide +kernel)], by rw [← e1], e2⟩
    · cases h
  · cases h
theorem join_cat : ∀ l : List Str, (Str.join ⟨#[]⟩ l).cps.toList = catS l
  | [] => rfl
  | [s] => by show _ = s.cps.toList ++ []; rw [List.append_nil]; rfl
  | s :: s' :: l => by
    show (s ++ (⟨#[]⟩ : Str) ++ Str.join ⟨#[]⟩ (s' :: l)).cps.toList = s.cps.toList ++ catS (s' :: l)
    rw [← join_cat (s' :: l)]
    simp [Str.cps_append]
theorem cat_len : ∀ l : List Str, (l.map (·.length)).sum = (catS l).length
  | [] => rfl
  | s :: l => by
    show s.length + (l.map (·.length)).sum = (s.cps.toList ++ catS l).length
    rw [cat_len l, List.length_append]
    rfl
theorem leafSR_ok {id : String} {x : Str} {t : Tok} {a : Addr} {T : GT} {i : Nat} {os : List Orc} {ts : Nat} {o : HOut} (e : leafSR E (nm id) x a T i os ts = some o) :
    LeafSays prog w E (.call (.builtin id) ⟨[.str x t, .ref a], []⟩) T i o := by
  unfold leafSR at e
  split at e
  · rename_i q
    have := nm_is "str.__getitem__" q (by decide +kernel)
    subst this
    split at e
    · rename_i y ty os'
      split at e
      · rename_i hl
        cases e
        intro hA hq A h₀ h m g d ox R _ O D _ hR
        obtain ⟨l, c, h1, h2, rfl⟩ := (hA : lastSays x y)
        obtain ⟨ob, tk, e1, e2, e3⟩ := lastSlice_is hl
        have ho := D.look O e1 (hq _ (.head _))
        refine spec_code F.slot_str_getitem (typeIs_str _ _ _) F.entry_str_getitem (F.args_str_getitem_2 _ _) (meets_str_getitem_slice x t a (some (-1, tk)) none none (by decide)) ⟨⟨ob, ho, e2, e3⟩, ?_⟩
        have hn : x.length = l.length + 1 := by
          have : x.cps.toList.length = l.length + 1 := by rw [h1]; simp
          simpa [Str.length] using this
        have hll : 1 ≤ l.length := by
          cases l with
          | nil => exact absurd rfl h2
          | cons => simp
        have hp : slicePicked x (some (-1, tk)) none none = [l.length] := by
          unfold slicePicked strSliceIndices sliceRange
          simp only [Option.map_some, Option.map_none, Option.getD_none, hn]
          have e1 : (-1 + ((l.length + 1 : Nat) : Int)) = (l.length : Int) := by lia
          have e2 : (max 0 (min (l.length : Int) ((l.length + 1 : Nat) : Int))) = (l.length : Int) := by lia
          rw [if_pos (show (1 : Int) > 0 by decide), if_pos (show (1 : Int) > 0 by decide), if_pos (show (-1 : Int) < 0 by decide), e1]
          simp only [if_pos (show (1 : Int) > 0 by decide), e2]
          rw [if_pos (by lia)]
          have e3 : ((((l.length + 1 : Nat) : Int) - (l.length : Int) + 1 - 1) / 1).toNat = 1 := by
            rw [Int.ediv_one]; lia
          rw [e3]
          simp
        unfold sliceMade
        rw [hp, if_neg (by
          have : ¬ (1 = x.length) := by lia
          simp [this])]
        have hx : x.cps[l.length]? = some c := by
          rw [← Array.getElem?_toList, h1]
          simp
        refine ⟨?_, ?_⟩
        · simp only [List.filterMap_cons, hx, List.filterMap_nil]
          show 1 ≤ sizeLine
          decide
        · have := hR h D
          simp only [List.filterMap_cons, hx, List.filterMap_nil]
          exact this
      · cases e
    · cases e
  · split at e
    · rename_i q
      have := nm_is "str.join" q (by decide +kernel)
      subst this
      split at e
      · rename_i l hl
        cases e
        intro hA hq A h₀ h m g d ox R _ O D _ hR
        obtain ⟨h1, h2, h3⟩ := (hA : joinSays x l)
        subst h1
        obtain ⟨ob, p, n, e1, e2, e3, e4⟩ := textsAt_is hl
        have ho := D.look O e1 (hq _ (.head _))
        have hc : (Str.join ⟨#[]⟩ l).cps.toList = catS l := join_cat l
        refine spec_code F.slot_str_join (typeIs_str _ _ _) F.entry_str_join (F.args_str_join_2 _ _) (meets_str_join_list ⟨#[]⟩ t a p ?_) ⟨⟨ob, ho, e2, n, e3⟩, ?_⟩
        · have e5 : ((p.map (·.1)).toArray.foldl (· + ·.length + (⟨#[]⟩ : Str).length) 0) = (catS l).length := by
            rw [StrLaws.joinTotal, e4, cat_len]
            show _ + _ * 0 = _
            lia
          rw [e5]
          unfold Builtin.Str.tooLong sizeLine
          simp
          lia
        · match p, e4 with
          | [], e4 => subst e4; simp at h2
          | [_], e4 => subst e4; simp at h2
          | p₁ :: p₂ :: p, e4 =>
            refine ⟨?_, ?_⟩
            · rw [e4, StrLaws.glued_eq_join]
              show (Str.join ⟨#[]⟩ l).cps.size ≤ sizeLine
              rw [← Array.length_toList, hc]
              unfold sizeLine; lia
            · rw [e4, StrLaws.glued_eq_join]
              have hj : Str.join ⟨#[]⟩ l = joinOf ⟨#[]⟩ l := by
                apply Str.ext'
                apply Array.toList_inj.mp
                exact hc
              rw [hj]
              exact hR h D
      · cases e
    · cases e
end
end Mine
namespace Mine
open PySem PySem.Sre PySem.Sre.M
noncomputable def dC : Array Nat := #[14, 4, 0, 1, 1, 6, 1, 16, 46, 1]
noncomputable def eC : Array Nat := #[14, 9, 4, 1, 2, 16, 10, 16, 13, 0, 7, 7, 16, 13, 16, 10, 15, 18, 5, 16, 10, 15, 13, 11, 16, 13, 5, 5, 0, 16, 10, 1, 15, 2, 0, 1]
/-- a state of the machine, as it comes up here -/
noncomputable def S (C t : Array Nat) (lim pc pos handed start : Nat) (outm : Bool) (frames : List Sre.Frame) (weight : Nat) (answer : Option Bool) (seen : Seen) : M :=
  { code := C, text := t, lim := lim, start := start, lastStart := lim, mustAdvance := false, pc := pc, pos := pos, handed := handed, outermost := outm, marks := #[], frames := frames, weight := weight, answer := answer, seen := seen }
noncomputable def Run (n : Nat) (m m' : M) : Prop := ∀ k, runFor (n + k) m = runFor k m'
theorem Run.refl (m : M) : Run 0 m m := fun k => by rw [Nat.zero_add]
theorem Run.trans {a b : Nat} {m m' m'' : M} (h : Run a m m') (g : Run b m' m'') : Run (a + b) m m'' := fun k => by
  rw [Nat.add_assoc, h, g]
theorem Run.step {m : M} (h : m.outcome = none) : Run 1 m m.step := fun k => by
  rw [Nat.add_comm]
  show (if m.outcome.isSome = true then m else runFor k m.step) = _
  rw [h]; rfl
theorem runFor_end {m : M} (h : m.outcome.isSome = true) : ∀ k, runFor k m = m
  | 0 => rfl
  | k + 1 => by show (if m.outcome.isSome = true then m else _) = _; rw [if_pos h]
theorem runFor_add (m : M) : ∀ a b, runFor (a + b) m = runFor b (runFor a m)
  | 0, b => by rw [Nat.zero_add]; rfl
  | a + 1, b => by
    rw [Nat.add_right_comm]
    show (if m.outcome.isSome = true then m else runFor (a + b) m.step) = runFor b (if m.outcome.isSome = true then m else runFor a m.step)
    split
    · rename_i h; exact (runFor_end h b).symm
    · exact runFor_add m.step a b
variable {t : Array Nat} {lim pos handed start : Nat} {outm : Bool} {frames : List Sre.Frame} {wt : Nat} {seen : Seen}
-- the dots' machine
theorem d5y (h : (pos == 0 || t.getD (pos - 1) 0 == 10) = true) : (S dC t lim 5 pos handed start outm frames wt none seen).step = S dC t lim 7 pos handed start outm frames wt none ((seen.add 6).add 44) := by
  change (if (pos == 0 || t.getD (pos - 1) 0 == 10) = true then _ else _) = _
  rw [if_pos h]
  rfl
theorem d5n (h : (pos == 0 || t.getD (pos - 1) 0 == 10) = false) : (S dC t lim 5 pos handed start outm frames wt none seen).step = S dC t lim 5 pos handed start outm frames wt (some false) ((seen.add 6).add 44) := by
  change (if (pos == 0 || t.getD (pos - 1) 0 == 10) = true then _ else _) = _
  rw [if_neg (by rw [h]; exact Bool.false_ne_true)]
  rfl
theorem d7o (h : lim ≤ pos) : (S dC t lim 7 pos handed start outm frames wt none seen).step = S dC t lim 7 pos handed start outm frames wt (some false) (seen.add 16) := by
  change (if pos ≥ lim then _ else _) = _
  rw [if_pos h]
  rfl
theorem d7y (h : pos < lim) (hc : t.getD pos 0 = 46) : (S dC t lim 7 pos handed start outm frames wt none seen).step = S dC t lim 9 (pos + 1) handed start outm frames wt none (seen.add 16) := by
  change (if pos ≥ lim then _ else (match (Except.ok (t.getD pos 0 == 46, _) : Except String (Bool × Seen)) with
    | .error why => _
    | .ok (false, seen) => _
    | .ok (true, seen) => _)) = _
  rw [if_neg (Nat.not_le.mpr h), hc]
  rfl
theorem d7n (hc : t.getD pos 0 ≠ 46) : (S dC t lim 7 pos handed start outm frames wt none seen).step = S dC t lim 7 pos handed start outm frames wt (some false) (seen.add 16) := by
  change (if pos ≥ lim then _ else (match (Except.ok (t.getD pos 0 == 46, _) : Except String (Bool × Seen)) with
    | .error why => _
    | .ok (false, seen) => _
    | .ok (true, seen) => _)) = _
  have : (t.getD pos 0 == 46) = false := by simpa using hc
  rw [this]
  split <;> rfl
theorem d9 : (S dC t lim 9 pos handed start outm frames wt none seen).step = S dC t lim 9 pos pos start outm frames wt (some true) (seen.add 1) := by
  cases outm <;> rfl
end Mine
namespace Mine
open PySem PySem.Sre PySem.Sre.M
noncomputable def nf (pc s : Nat) (first : Bool) : Sre.Frame := { wait := .nextStart, pc := pc, pos := s, outermost := first }
noncomputable def isMatched : Option Sre.Outcome → Bool
  | some .matched => true
  | _ => false
noncomputable def isFailed : Option Sre.Outcome → Bool
  | some .failed => true
  | _ => false
noncomputable def fin (m : M) (o : Sre.Outcome) : M := { m with outcome := some o }
section
variable {t : Array Nat} {lim pos handed start pc : Nat} {outm first : Bool} {frames : List Sre.Frame} {wt s : Nat} {seen : Seen}
theorem d_res (h : s < lim) : (S dC t lim pc pos handed start outm [nf 5 s first] 1 (some false) seen).step = S dC t lim 5 (s + 1) (s + 1) (s + 1) false [nf 5 (s + 1) false] 1 none seen := by
  change (if s < lim then _ else _) = _
  rw [if_pos h]
  rfl
theorem d_end (h : ¬ s < lim) : (S dC t lim pc pos handed start outm [nf 5 s first] 1 (some false) seen).step = S dC t lim 5 s handed start first [] 0 (some false) seen := by
  change (if s < lim then _ else _) = _
  rw [if_neg h]
  rfl
theorem res_yes {C : Array Nat} {p0 : Nat} : (S C t lim pc pos handed start outm [nf p0 s first] 1 (some true) seen).step = S C t lim p0 s handed start first [] 0 (some true) seen := rfl
theorem last_yes {C : Array Nat} : (S C t lim pc pos handed start outm [] wt (some true) seen).step = fin (S C t lim pc pos handed start outm [] wt (some true) seen) .matched := rfl
theorem last_no {C : Array Nat} : (S C t lim pc pos handed start outm [] wt (some false) seen).step = fin (S C t lim pc pos handed start outm [] wt (some false) seen) .failed := rfl
theorem one {C : Array Nat} {an : Option Bool} {m' : M} (h : (S C t lim pc pos handed start outm frames wt an seen).step = m') : Run 1 (S C t lim pc pos handed start outm frames wt an seen) m' := h ▸ Run.step rfl
/-- what a search comes to -/
structure Came (hit : Nat → Prop) (wid : Nat → Nat) (s lim : Nat) (m : M) (n : Nat) : Prop where
  run : ∃ k f, k ≤ n ∧ Run k m f ∧ ((∃ p, s ≤ p ∧ p < lim ∧ hit p ∧ (∀ j, s ≤ j → j < p → ¬ hit j) ∧ isMatched f.outcome = true ∧ f.start = p ∧ f.handed = p + wid p) ∨ ((∀ j, s ≤ j → j < lim → ¬ hit j) ∧ isFailed f.outcome = true))
theorem Came.pre {hit : Nat → Prop} {wid : Nat → Nat} {s s' lim n k : Nat} {m m' : M} (h : Came hit wid s' lim m' n) (r : Run k m m') (hs : s ≤ s') (hn : ∀ j, s ≤ j → j < s' → ¬ hit j) : Came hit wid s lim m (k + n) := by
  obtain ⟨a, f, ha, hr, hc⟩ := h
  refine ⟨k + a, f, by lia, r.trans hr, ?_⟩
  rcases hc with ⟨p, h1, h2, h3, h4, h5⟩ | ⟨h1, h2⟩
  · refine .inl ⟨p, by lia, h2, h3, fun j j1 j2 => ?_, h5⟩
    rcases Nat.lt_or_ge j s' with q | q
    · exact hn j j1 q
    · exact h4 j q j2
  · refine .inr ⟨fun j j1 j2 => ?_, h2⟩
    rcases Nat.lt_or_ge j s' with q | q
    · exact hn j j1 q
    · exact h1 j q j2
noncomputable def hitD (t : Array Nat) (p : Nat) : Prop := (p == 0 || t.getD (p - 1) 0 == 10) = true ∧ t.getD p 0 = 46
theorem dots_run (t : Array Nat) (lim : Nat) : ∀ (k s : Nat) (first : Bool) (seen : Seen), s + k = lim → Came (hitD t) (fun _ => 1) s lim (S dC t lim 5 s s s first [nf 5 s first] 1 none seen) (3 * k + 5) := by
  intro k
  induction k with
  | zero =>
    intro s first seen hs
    have hle : ¬ s < lim := by lia
    have stop : ∀ pc pos handed start outm sn, Came (hitD t) (fun _ => 1) s lim (S dC t lim pc pos handed start outm [nf 5 s first] 1 (some false) sn) 2 := by
      intro pc pos handed start outm sn
      exact ⟨2, _, Nat.le_refl _, (one (d_end hle)).trans (one last_no), .inr ⟨fun j j1 j2 => by lia, rfl⟩⟩
    cases h : (s == 0 || t.getD (s - 1) 0 == 10) with
    | false => 
      obtain ⟨a, f, ha, hr, hc⟩ := (stop _ _ _ _ _ _).pre (one (d5n h)) (Nat.le_refl s) fun j j1 j2 => by lia
      exact ⟨a, f, by lia, hr, hc⟩
    | true =>
      obtain ⟨a, f, ha, hr, hc⟩ := (stop _ _ _ _ _ _).pre ((one (d5y h)).trans (one (d7o (by lia)))) (Nat.le_refl s) fun j j1 j2 => by lia
      exact ⟨a, f, by lia, hr, hc⟩
  | succ k ih =>
    intro s first seen hs
    have hlt : s < lim := by lia
    have next : ∀ pc pos handed start outm sn, ¬ hitD t s → Came (hitD t) (fun _ => 1) s lim (S dC t lim pc pos handed start outm [nf 5 s first] 1 (some false) sn) (1 + (3 * k + 5)) := by
      intro pc pos handed start outm sn hn
      refine (ih (s + 1) false sn (by lia)).pre (one (d_res hlt)) (by lia) fun j j1 j2 => ?_
      have : j = s := by lia
      exact this ▸ hn
    cases h : (s == 0 || t.getD (s - 1) 0 == 10) with
    | false =>
      obtain ⟨a, f, ha, hr, hc⟩ := (next _ _ _ _ _ _ fun x => by rw [x.1] at h; cases h).pre (one (d5n h)) (Nat.le_refl s) fun j j1 j2 => by lia
      exact ⟨a, f, by lia, hr, hc⟩
    | true =>
      by_cases h2 : t.getD s 0 = 46
      · exact ⟨5, _, by lia, (((one (d5y h)).trans (one (d7y hlt h2))).trans ((one d9).trans (one res_yes))).trans (one last_yes), .inl ⟨s, Nat.le_refl s, hlt, ⟨h, h2⟩, fun j j1 j2 => by lia, rfl, rfl, rfl⟩⟩
      · obtain ⟨a, f, ha, hr, hc⟩ := (next _ _ _ _ _ _ fun x => h2 x.2).pre ((one (d5y h)).trans (one (d7n h2))) (Nat.le_refl s) fun j j1 j2 => by lia
        exact ⟨a, f, by lia, hr, hc⟩
theorem dots_search (t : Array Nat) (s : Nat) (hs : s ≤ t.size) : Came (hitD t) (fun _ => 1) s t.size (forSearch dC t 0 s t.size false) (3 * t.size + 5) := by
  have e : forSearch dC t 0 s t.size false = if (decide (s > t.size) || decide (t.size - s < 1)) = true then ({ code := dC, text := t, lim := t.size, start := s, pc := 5, pos := s, handed := s, marks := #[], mustAdvance := false, seen := ({} : Seen).add 14 } : M).say false else S dC t t.size 5 s s s true [nf 5 s true] 1 none (({} : Seen).add 14) := by
    rfl
  rw [e]
  rcases Nat.lt_or_ge s t.size with h | h
  · have h1 : ¬ s > t.size := by lia
    have h2 : ¬ t.size - s < 1 := by lia
    rw [decide_eq_false h1, decide_eq_false h2]
    obtain ⟨a, f, ha, hr, hc⟩ := dots_run t t.size (t.size - s) s true (({} : Seen).add 14) (by lia)
    exact ⟨a, f, by lia, hr, hc⟩
  · have h2 : t.size - s < 1 := by lia
    rw [decide_eq_true h2, Bool.or_true, if_pos rfl]
    exact ⟨1, _, by lia, Run.step rfl, .inr ⟨fun j j1 j2 => by lia, rfl⟩⟩
-- the ends' machine
noncomputable def nb (pc s : Nat) (first : Bool) : Sre.Frame := { wait := .nextBranch, pc := pc, pos := s, outermost := first, kept := { lastmark := -1, lastindex := -1, whole := false, marks := #[] } }
noncomputable def ln (pc s : Nat) (first : Bool) : Sre.Frame := { wait := .lookNot, pc := pc, pos := s, outermost := first, kept := { lastmark := -1, lastindex := -1, whole := false, marks := #[] } }
theorem e10 : (S eC t lim 10 pos handed start outm [nf 10 s first] 1 none seen).step = S eC t lim 12 pos pos start outm [nb 11 pos outm, nf 10 s first] 2 none (seen.add 7) := rfl
theorem e_lit (pc c pc' : Nat) (hq : (pc, c, pc') ∈ [(12, 13, 14), (14, 10, 16), (19, 10, 21), (24, 13, 26), (29, 10, 31)]) (h : pos < lim) (hc : t.getD pos 0 = c) : (S eC t lim pc pos handed start outm frames wt none seen).step = S eC t lim pc' (pos + 1) handed start outm frames wt none (seen.add 16) := by
  simp only [List.mem_cons, Prod.mk.injEq, List.not_mem_nil, or_false] at hq
  rcases hq with ⟨rfl, rfl, rfl⟩ | ⟨rfl, rfl, rfl⟩ | ⟨rfl, rfl, rfl⟩ | ⟨rfl, rfl, rfl⟩ | ⟨rfl, rfl, rfl⟩ <;> (
    first
    | (change (if pos ≥ lim then _ else (match (Except.ok (t.getD pos 0 == 13, _) : Except String (Bool × Seen)) with
        | .error why => _
        | .ok (false, seen) => _
        | .ok (true, seen) => _)) = _
       rw [if_neg (Nat.not_le.mpr h), hc]
       rfl)
    | (change (if pos ≥ lim then _ else (match (Except.ok (t.getD pos 0 == 10, _) : Except String (Bool × Seen)) with
        | .error why => _
        | .ok (false, seen) => _
        | .ok (true, seen) => _)) = _
       rw [if_neg (Nat.not_le.mpr h), hc]
       rfl))
theorem e_litn (pc c : Nat) (hq : (pc, c) ∈ [(12, 13), (14, 10), (19, 10), (24, 13), (29, 10)]) (hc : lim ≤ pos ∨ t.getD pos 0 ≠ c) : (S eC t lim pc pos handed start outm frames wt none seen).step = S eC t lim pc pos handed start outm frames wt (some false) (seen.add 16) := by
  have key : ∀ (c : Nat), (lim ≤ pos ∨ t.getD pos 0 ≠ c) → ¬ pos ≥ lim → (t.getD pos 0 == c) = false := fun c h1 h2 => by
    rcases h1 with h1 | h1
    · exact absurd h1 h2
    · simpa using h1
  simp only [List.mem_cons, Prod.mk.injEq, List.not_mem_nil, or_false] at hq
  rcases hq with ⟨rfl, rfl⟩ | ⟨rfl, rfl⟩ | ⟨rfl, rfl⟩ | ⟨rfl, rfl⟩ | ⟨rfl, rfl⟩ <;> (
    first
    | (change (if pos ≥ lim then _ else (match (Except.ok (t.getD pos 0 == 13, _) : Except String (Bool × Seen)) with
        | .error why => _
        | .ok (false, seen) => _
        | .ok (true, seen) => _)) = _
       split
       · rfl
       · rename_i h; rw [key _ hc h]; rfl)
    | (change (if pos ≥ lim then _ else (match (Except.ok (t.getD pos 0 == 10, _) : Except String (Bool × Seen)) with
        | .error why => _
        | .ok (false, seen) => _
        | .ok (true, seen) => _)) = _
       split
       · rfl
       · rename_i h; rw [key _ hc h]; rfl))
theorem e16 : (S eC t lim 16 pos handed start outm frames wt none seen).step = S eC t lim 35 pos handed start outm frames wt none (seen.add 15) := rfl
theorem e21 : (S eC t lim 21 pos handed start outm frames wt none seen).step = S eC t lim 35 pos handed start outm frames wt none (seen.add 15) := rfl
theorem e32 : (S eC t lim 32 pos handed start outm frames wt none seen).step = S eC t lim 35 pos handed start outm frames wt none (seen.add 15) := rfl
theorem e35 : (S eC t lim 35 pos handed start outm frames wt none seen).step = S eC t lim 35 pos pos start outm frames wt (some true) (seen.add 1) := by
  cases outm <;> rfl
theorem e26 : (S eC t lim 26 pos handed start outm [nb 23 s first, nf 10 s first] 2 none seen).step = S eC t lim 29 pos pos start false [ln 26 pos outm, nb 23 s first, nf 10 s first] 3 none (seen.add 5) := rfl
theorem e_nby {p0 : Nat} : (S eC t lim pc pos handed start outm [nb p0 s first, nf 10 s first] 2 (some true) seen).step = S eC t lim p0 s handed start first [nf 10 s first] 1 (some true) seen := rfl
theorem e_nb11 : (S eC t lim pc pos handed start outm [nb 11 s first, nf 10 s first] 2 (some false) seen).step = S eC t lim 19 s s start first [nb 18 s first, nf 10 s first] 2 none seen := rfl
theorem e_nb18 : (S eC t lim pc pos handed start outm [nb 18 s first, nf 10 s first] 2 (some false) seen).step = S eC t lim 24 s s start first [nb 23 s first, nf 10 s first] 2 none seen := rfl
theorem e_ln {q : Nat} : (S eC t lim pc pos handed start outm [ln 26 q first, nb 23 s first, nf 10 s first] 3 (some false) seen).step = S eC t lim 32 q handed start first [nb 23 s first, nf 10 s first] 2 none seen := rfl
end
end Mine
namespace Mine
open PySem PySem.Sre PySem.Sre.M
section
variable {t : Array Nat} {lim s : Nat} {first : Bool} {seen : Seen}
noncomputable def hitE (t : Array Nat) (p : Nat) : Prop := t.getD p 0 = 10 ∨ t.getD p 0 = 13
noncomputable def widE (t : Array Nat) (lim p : Nat) : Nat := if t.getD p 0 = 13 ∧ p + 1 < lim ∧ t.getD (p + 1) 0 = 10 then 2 else 1
theorem ends_at (hs : s < lim) (hh : hitE t s) : ∃ k f, k ≤ 20 ∧ Run k (S eC t lim 10 s s s first [nf 10 s first] 1 none seen) f ∧ isMatched f.outcome = true ∧ f.start = s ∧ f.handed = s + widE t lim s := by
  have tail : ∀ pos handed fr q sn, Run 4 (S eC t lim 35 pos handed s fr [nb q s first, nf 10 s first] 2 none sn) (fin (S eC t lim 10 s pos s first [] 0 (some true) (sn.add 1)) .matched) := by
    intro pos handed fr q sn
    exact ((one e35).trans (one e_nby)).trans ((one res_yes).trans (one last_yes))
  by_cases h13 : t.getD s 0 = 13
  · by_cases h10 : s + 1 < lim ∧ t.getD (s + 1) 0 = 10
    · refine ⟨8, _, by lia, ((one e10).trans (one (e_lit 12 13 14 (by simp) hs h13))).trans (((one (e_lit 14 10 16 (by simp) h10.1 h10.2)).trans (one e16)).trans (tail _ _ _ _ _)), rfl, rfl, ?_⟩
      show s + 1 + 1 = s + widE t lim s
      unfold widE
      rw [if_pos ⟨h13, h10⟩]
    · have hn : lim ≤ s + 1 ∨ t.getD (s + 1) 0 ≠ 10 := by
        rcases Nat.lt_or_ge (s + 1) lim with q | q
        · exact .inr fun z => h10 ⟨q, z⟩
        · exact .inl q
      have r1 := ((one (e10 (t := t) (lim := lim) (pos := s) (handed := s) (start := s) (outm := first) (s := s) (first := first) (seen := seen))).trans (one (e_lit 12 13 14 (by simp) hs h13))).trans ((one (e_litn 14 10 (by simp) hn)).trans (one e_nb11))
      have r2 := r1.trans ((one (e_litn 19 10 (by simp) (.inr (by rw [h13]; decide)))).trans (one e_nb18))
      have r3 := r2.trans ((one (e_lit 24 13 26 (by simp) hs h13)).trans (one e26))
      have r4 := r3.trans ((one (e_litn 29 10 (by simp) hn)).trans (one e_ln))
      refine ⟨_, _, ?_, r4.trans ((one e32).trans (tail _ _ _ _ _)), rfl, rfl, ?_⟩
      · lia
      · show s + 1 = s + widE t lim s
        unfold widE
        rw [if_neg (fun z => h10 z.2)]
  · have h10 : t.getD s 0 = 10 := by
      rcases hh with h | h
      · exact h
      · exact absurd h h13
    have r1 := ((one (e10 (t := t) (lim := lim) (pos := s) (handed := s) (start := s) (outm := first) (s := s) (first := first) (seen := seen))).trans (one (e_litn 12 13 (by simp) (.inr h13)))).trans (one e_nb11)
    have r2 := r1.trans ((one (e_lit 19 10 21 (by simp) hs h10)).trans (one e21))
    refine ⟨_, _, ?_, r2.trans (tail _ _ _ _ _), rfl, rfl, ?_⟩
    · lia
    · show s + 1 = s + widE t lim s
      unfold widE
      rw [if_neg (fun z => h13 z.1)]
theorem inSet_e (c : Nat) : ∃ sn, inSet eC c 36 5 true seen = .ok (decide (c = 10 ∨ c = 13), sn) := by
  by_cases h1 : c = 10
  · subst h1; exact ⟨_, rfl⟩
  · by_cases h2 : c = 13
    · subst h2; exact ⟨_, rfl⟩
    · refine ⟨((seen.add 16).add 16).add 0, ?_⟩
      have e1 : (c == 10) = false := by simpa using h1
      have e2 : (c == 13) = false := by simpa using h2
      have e3 : decide (c = 10 ∨ c = 13) = false := by simp [h1, h2]
      rw [e3]
      change (if (c == 10) = true then _ else if (c == 13) = true then _ else _) = _
      rw [e1, e2]
      rfl
theorem admitted_e (m : M) (hc : m.code = eC) (ht : m.text = t) (hl : m.lim = lim) : ∀ (fuel s : Nat) (seen : Seen), lim < s + fuel →
    (∃ p sn, s ≤ p ∧ p < lim ∧ hitE t p ∧ (∀ j, s ≤ j → j < p → ¬ hitE t j) ∧ admitted m fuel s seen = .ok (some p, sn)) ∨ ((∀ j, s ≤ j → j < lim → ¬ hitE t j) ∧ ∃ sn, admitted m fuel s seen = .ok (none, sn))
  | 0, s, seen, h => .inr ⟨fun j j1 j2 => by lia, _, rfl⟩
  | fuel + 1, s, seen, h => by
    unfold admitted
    rw [hl]
    by_cases hs : s ≥ lim
    · rw [if_pos hs]
      exact .inr ⟨fun j j1 j2 => by lia, _, rfl⟩
    · rw [if_neg hs, hc, ht]
      obtain ⟨sn, e⟩ := inSet_e (seen := seen) (t.getD s 0)
      rw [show eC.size = 36 from rfl, e]
      by_cases hh : t.getD s 0 = 10 ∨ t.getD s 0 = 13
      · rw [decide_eq_true hh]
        exact .inl ⟨s, sn, Nat.le_refl s, by lia, hh, fun j j1 j2 => by lia, rfl⟩
      · rw [decide_eq_false hh]
        have here : ∀ j, s ≤ j → j < s + 1 → ¬ hitE t j := fun j j1 j2 => by
          have : j = s := by lia
          exact this ▸ hh
        rcases admitted_e m hc ht hl fuel (s + 1) sn (by lia) with ⟨p, sn', h1, h2, h3, h4, h5⟩ | ⟨h1, h2⟩
        · refine .inl ⟨p, sn', by lia, h2, h3, fun j j1 j2 => ?_, h5⟩
          rcases Nat.lt_or_ge j (s + 1) with q | q
          · exact here j j1 q
          · exact h4 j q j2
        · refine .inr ⟨fun j j1 j2 => ?_, h2⟩
          rcases Nat.lt_or_ge j (s + 1) with q | q
          · exact here j j1 q
          · exact h1 j q j2
theorem ends_search (t : Array Nat) (s : Nat) (hs : s ≤ t.size) : Came (hitE t) (widE t t.size) s t.size (forSearch eC t 0 s t.size false) 20 := by
  let m0 : M := { code := eC, text := t, lim := t.size, start := s, lastStart := t.size, pc := 10, pos := s, handed := s, marks := #[], mustAdvance := false, seen := ({} : Seen).add 14 }
  have e : forSearch eC t 0 s t.size false = if (decide (s > t.size) || decide (t.size - s < 1)) = true then ({ code := eC, text := t, lim := t.size, start := s, pc := 10, pos := s, handed := s, marks := #[], mustAdvance := false, seen := ({} : Seen).add 14 } : M).say false else
      (match admitted m0 (t.size + 1 - s) s (({} : Seen).add 14) with
      | .ok (some p, sn) => S eC t t.size 10 p p p true [nf 10 p true] 1 none sn
      | .ok (none, sn) => { m0 with seen := sn }.say false
      | .error why => m0.stick why) := by
    rfl
  rw [e]
  rcases Nat.lt_or_ge s t.size with h | h
  · have h1 : ¬ s > t.size := by lia
    have h2 : ¬ t.size - s < 1 := by lia
    rw [decide_eq_false h1, decide_eq_false h2, if_neg (by simp)]
    rcases admitted_e (t := t) (lim := t.size) m0 rfl rfl rfl (t.size + 1 - s) s (({} : Seen).add 14) (by lia) with ⟨p, sn, h1, h2, h3, h4, h5⟩ | ⟨h1, sn, h2⟩
    · rw [h5]
      obtain ⟨k, f, hk, hr, g1, g2, g3⟩ := ends_at (first := true) (seen := sn) h2 h3
      exact ⟨k, f, hk, hr, .inl ⟨p, h1, h2, h3, h4, g1, g2, g3⟩⟩
    · rw [h2]
      exact ⟨1, _, by lia, Run.step rfl, .inr ⟨h1, rfl⟩⟩
  · have h2 : t.size - s < 1 := by lia
    rw [decide_eq_true h2, Bool.or_true, if_pos rfl]
    exact ⟨1, _, by lia, Run.step rfl, .inr ⟨fun j j1 j2 => by lia, rfl⟩⟩
end
end Mine
namespace Mine
open PySem PySem.W PySem.W.X PySem.Calls PySem.Spec PySem.Builtin PySem.Builtin.Str PySem.Builtin.Re
theorem slot_sub : Slot "re.Pattern" "sub" "re.Pattern.sub" :=
  .of (owner := "re.Pattern") (n := "sub") (by rw [typeLookup_type, builtinLookup_eq_fast]; kernel_rfl) (by decide +kernel) (by decide +kernel) (by decide +kernel)
    (by first | exact .inl (by decide +kernel) | exact .inr (by decide +kernel)) (by rw [isSubtype_type]; kernel_rfl)
theorem entry_sub : entryFor table "re.Pattern.sub" = some Builtin.«re.Pattern.sub» := entryFor_of_tree (by kernel_rfl)
theorem entry_subloop : entryFor table "re.Pattern.sub.loop" = some Builtin.«re.Pattern.sub.loop» := entryFor_of_tree (by kernel_rfl)
theorem plain_subloop : plainId "re.Pattern.sub.loop" = true := by decide +kernel
theorem args_sub (a b c : Value) : argsOk "re.Pattern.sub" ⟨[a, b, c], []⟩ := by unfold argsOk; kernel_rfl
theorem noCall_str : typeLookup (.type "str") "__call__" = pure none := by rw [typeLookup_type, builtinLookup_eq_fast]; kernel_rfl
section
variable {prog : Program} {w : World} {A : Around} {E : Value → Shared → Prop} {s : Shared}
theorem wpAny_reDrive {Q : Sre.M → Shared → Prop} {f : Sre.M} (hf : f.outcome.isSome = true) (h : Q f s) : ∀ (T n : Nat) (m : Sre.M), Run n m f → n < 4 * T → wpAny (model prog w) A (reDrive T m) Q E s
  | 0, n, m, _, hn => by lia
  | T + 1, n, m, hr, hn => by
    show wpAny _ _ (if (m.runFor 4).outcome.isSome = true then pure (m.runFor 4) else rule "sre.turn" >>= fun _ => reDrive T (m.runFor 4)) _ _ _
    by_cases hd : (m.runFor 4).outcome.isSome = true
    · rw [if_pos hd]
      have e1 : Sre.M.runFor (n + 4) m = f := (hr 4).trans (runFor_end hf 4)
      have e2 : Sre.M.runFor (4 + n) m = m.runFor 4 := by rw [runFor_add]; exact runFor_end hd n
      have e3 : m.runFor 4 = f := by rw [← e2, Nat.add_comm, e1]
      rw [e3]
      exact wpAny_pure h
    · rw [if_neg hd]
      have h4 : 4 ≤ n := by
        rcases Nat.lt_or_ge n 4 with q | q
        · have e1 : Sre.M.runFor (n + (4 - n)) m = f := (hr (4 - n)).trans (runFor_end hf _)
          have e2 : n + (4 - n) = 4 := by lia
          rw [e2] at e1
          exact absurd (by rw [e1]; exact hf) hd
        · exact q
      refine wpAny_bind (wpAny_rule (wpAny_reDrive hf h T (n - 4) (m.runFor 4) (fun k => ?_) (by lia)))
      rw [← runFor_add, ← hr k]
      congr 1
      lia
theorem wpAny_rules {ids : List Nat} {c : Nat → Bool} {nm : Nat → String} {Q : PUnit → Shared → Prop} (h : Q PUnit.unit s) :
    wpAny (model prog w) A (forIn ids PUnit.unit fun i _ => if c i = true then rule (nm i) >>= fun _ => pure (ForInStep.yield PUnit.unit) else pure (ForInStep.yield PUnit.unit)) Q E s := by
  refine wpAny_forIn_list _ (fun _ _ s' => s' = s) _ (fun x rest b s' hs => ?_) (fun b s' hs => by rw [hs]; exact h) ids PUnit.unit rfl
  subst hs
  by_cases hc : c x = true
  · rw [if_pos hc]; exact wpAny_bind (wpAny_rule (wpAny_pure rfl))
  · rw [if_neg hc]; exact wpAny_pure rfl
theorem wpAny_runToEnd {Q : Option Sre.M → Shared → Prop} {f m : Sre.M} {n : Nat} (hr : Run n m f) (hn : n < 4 * 2 ^ 64) (hf : (isMatched f.outcome = true ∧ Q (some f) s) ∨ (isFailed f.outcome = true ∧ Q none s)) : wpAny (model prog w) A (reRunToEnd m) Q E s := by
  have hs : f.outcome.isSome = true := by
    cases e : f.outcome with
    | some => rfl
    | none =>
      rw [e] at hf
      rcases hf with ⟨h, _⟩ | ⟨h, _⟩ <;> cases h
  unfold reRunToEnd
  refine wpAny_bind (wpAny_reDrive hs ?_ (2 ^ 64) n m hr hn)
  refine wpAny_bind (wpAny_rules ?_)
  rcases hf with ⟨h, q⟩ | ⟨h, q⟩
  · cases e : f.outcome with
    | none => rw [e] at h; cases h
    | some o => cases o <;> first | (rw [e] at h; cases h; done) | exact wpAny_pure q
  · cases e : f.outcome with
    | none => rw [e] at h; cases h
    | some o => cases o <;> first | (rw [e] at h; cases h; done) | exact wpAny_pure q
end
end Mine
namespace Mine
open PySem PySem.W PySem.W.X PySem.Calls PySem.Spec PySem.Builtin PySem.Builtin.Str PySem.Builtin.Re
noncomputable def cutP (t : Array Nat) (p q : Nat) : List Pc := if p < q then [(true, (t.extract p q).toList)] else []
theorem flatP_app : ∀ (a b : List Pc), flatP (a ++ b) = flatP a ++ flatP b
  | [], _ => rfl
  | c :: a, b => by show c.2 ++ flatP (a ++ b) = (c.2 ++ flatP a) ++ flatP b; rw [flatP_app, List.append_assoc]
theorem tkP_app : ∀ (a b : List Pc), tkP (a ++ b) = tkP a + tkP b
  | [], _ => by simp [tkP]
  | c :: a, b => by show c.1.toNat + tkP (a ++ b) = (c.1.toNat + tkP a) + tkP b; rw [tkP_app, Nat.add_assoc]
/-- what is asked of a pattern over a text: the pieces from a place on -/
structure Subs (C t : Array Nat) (z : List Nat) (F : Nat → List Pc) : Prop where
  turn : ∀ p, p ≤ t.size → ∃ k f, k < 4 * 2 ^ 64 ∧ Run k (Sre.forSearch C t 0 p t.size false) f ∧
    ((∃ q e, p ≤ q ∧ q < e ∧ e ≤ t.size ∧ isMatched f.outcome = true ∧ f.start = q ∧ f.handed = e ∧ F p = cutP t p q ++ (false, z) :: F e) ∨ (isFailed f.outcome = true ∧ F p = cutP t p t.size))
/-- a pattern's object and its code -/
structure PatAt (h : Heap) (pa ca : Addr) (C : Array Nat) : Prop where
  pat : ∃ o f0 f1 t2 f3 f4 t6, h.get? pa = some o ∧ o.cls = .type "re.Pattern" ∧ o.data = .fields #[f0, f1, .int 0 t2, f3, f4, .ref ca, .int 0 t6]
  code : ∃ o items n, h.get? ca = some o ∧ o.data = .seq items n ∧ (items.map fun v => (reRawOf v).toNat) = C
section
variable {prog : Program} {w : World} {A : Around} {E : Value → Shared → Prop} {s : Shared}
theorem wpAny_wholeTarget {pa ca : Addr} {C : Array Nat} {x : Str} {xt : Tok} {Q : ReTarget → Shared → Prop} (P : PatAt s.heap pa ca C)
    (h : Q { pattern := .ref pa, string := .str x xt, code := C, text := x.cps, kind := 0, groups := 0, pos := 0, lim := x.cps.size } s) : wpAny (model prog w) A (reWholeTarget (.ref pa) (.str x xt)) Q E s := by
  obtain ⟨o, f0, f1, t2, f3, f4, t6, ho, hc, hd⟩ := P.pat
  obtain ⟨oc, items, n, hoc, hdc, hC⟩ := P.code
  unfold reWholeTarget
  refine wpAny_bind (wpAny_fieldsOf ho hd ?_)
  show wpAny _ _ (reTextOf (.str x xt) >>= _) _ _ _
  refine wpAny_bind (wpAny_pure ?_)
  show wpAny _ _ (reRawItems (.ref ca) >>= _) _ _ _
  refine wpAny_bind (wpAny_bind (wpAny_seqItems hoc hdc (wpAny_pure ?_)))
  refine wpAny_pure ?_
  have e : (((some items).getD #[]).map reRawOf).map (·.toNat) = C := by
    rw [← hC]
    simp
  rw [e]
  exact h
theorem strValues_app (l : List (Str × Tok)) (x : Str) (t : Tok) : strValues (l ++ [(x, t)]) = strValues l ++ [.str x t] := by simp [strValues]
theorem catS_app (l : List Str) (x : Str) : catS (l ++ [x]) = catS l ++ x.cps.toList := by
  induction l with
  | nil => simp [catS]
  | cons y l ih => simp [catS, ih]
theorem joinC {l : List Str} : Str.join ⟨#[]⟩ l = ⟨⟨catS l⟩⟩ := by
  apply Str.ext'
  apply Array.toList_inj.mp
  exact join_cat l
theorem total_ok {l : List Str} (h : (catS l).length ≤ 500000) : tooLong (l.toArray.foldl (· + ·.length + (⟨#[]⟩ : Str).length) 0) = false := by
  have e5 : (l.toArray.foldl (· + ·.length + (⟨#[]⟩ : Str).length) 0) = (catS l).length := by
    rw [StrLaws.joinTotal, cat_len]
    show _ + _ * 0 = _
    lia
  rw [e5]
  unfold Builtin.Str.tooLong sizeLine
  simp only [decide_eq_false_iff_not]
  lia
theorem joinMade_many {l : List (Str × Tok)} (h : 2 ≤ l.length) : joinMade ⟨#[]⟩ l = .str ⟨⟨catS (l.map (·.1))⟩⟩ := by
  match l, h with
  | p₁ :: p₂ :: ps, _ =>
    show Made.str (glued ⟨#[]⟩ _) = _
    rw [StrLaws.glued_eq_join, joinC]
theorem not_empty {l : List (Str × Tok)} (h : 2 ≤ l.length) : ((some (strValues l).toArray).getD #[]).isEmpty = false := by
  match l, h with
  | p₁ :: p₂ :: ps, _ => simp [strValues]
theorem wp_tail {a : Addr} {items : List (Str × Tok)} {x : Str} {Q : Fin → Shared → Prop} (hl : s.heap.IsList a (strValues items).toArray) (h2 : 2 ≤ items.length) (htot : (catS (items.map (·.1))).length ≤ 500000)
    (hQ : Q (.done (.ret (.str ⟨⟨catS (items.map (·.1))⟩⟩ (s.toks + 1)))) { s with toks := s.toks + 1 + 1 }) :
    wpAny (model prog w) A (reSlice x.cps 0 0 0 >>= fun joiner => seqItems? (.ref a) >>= fun xs => if (xs.getD #[]).isEmpty = true then ((pure joiner : Sem Value) >>= fun text => ret text) else (call (.builtin "str.join") [joiner, .ref a] >>= fun text => ret text)) Q E s := by
  obtain ⟨o, ho, hc, n, hd⟩ := id hl
  have e0 : x.cps.extract 0 0 = #[] := by simp
  show wpAny _ _ (mkStr ⟨x.cps.extract 0 0⟩ >>= _) _ _ _
  rw [e0]
  refine wpAny_bind (wpAny_mkStr ?_ (by decide))
  refine wpAny_bind (wpAny_seqItems (s := { s with toks := s.toks + 1 }) ho hd ?_)
  rw [not_empty h2, if_neg Bool.false_ne_true]
  refine wpAny_bind (call_meets F.slot_str_join (typeIs_str _ _ _) F.entry_str_join (F.args_str_join_2 _ _) (meets_str_join_list ⟨#[]⟩ s.toks a items (total_ok htot)) ⟨hl, ?_⟩)
  rw [joinMade_many h2]
  refine ⟨?_, wpAny_pure hQ⟩
  show (catS (items.map (·.1))).length ≤ sizeLine
  unfold sizeLine; lia
theorem push_list {h : Heap} {a : Addr} {items : List (Str × Tok)} {o : Obj} {n : Nat} (v : Str) (t : Tok) (ho : h.get? a = some o) (hc : o.cls = .type "list") (hd : o.data = .seq (strValues items).toArray n) :
    (h.update a (Obj.mapSeq fun xs => xs.push (.str v t))).IsList a (strValues (items ++ [(v, t)])).toArray := by
  obtain ⟨oc, od, odt, osl⟩ := o
  simp only at hc hd
  subst hd
  have e : (strValues (items ++ [(v, t)])).toArray = (strValues items).toArray.push (.str v t) := by
    rw [strValues_app, List.push_toArray]
  rw [e]
  exact ⟨_, Heap.get?_update_self _ ho rfl, hc, _, rfl⟩
theorem loop_end {pa ca a : Addr} {C z : Array Nat} {x : Str} {xt : Tok} {n : Int} {p : Nat} {items : List (Str × Tok)} {h : Heap} {g : Array GenState} {d : Drawn} {tk : Nat} {ox : OsState} {zt : Tok} {R : Result → Shared → Prop} {k : Nat} {f : Sre.M}
    (P : PatAt h pa ca C) (hp : p ≤ x.cps.size) (hx : x.cps.size < 100000) (hl : h.IsList a (strValues items).toArray) (hi : items.length ≤ 2 * p) (htot : (catS (items.map (·.1)) ++ flatP (cutP x.cps p x.cps.size)).length ≤ 500000) (h2 : 2 ≤ items.length + (cutP x.cps p x.cps.size).length)
    (hk : k < 4 * 2 ^ 64) (hr : Run k (Sre.forSearch C x.cps 0 p x.cps.size false) f) (hf : isFailed f.outcome = true)
    (hR : ∀ h' : Heap, h'.objs.size = h.objs.size → (∀ b, b ≠ a → h'.get? b = h.get? b) → R (.ok (.ret (.str ⟨⟨catS (items.map (·.1)) ++ flatP (cutP x.cps p x.cps.size)⟩⟩ (tk + tkP (cutP x.cps p x.cps.size) + 1)))) ⟨h', g, d, tk + tkP (cutP x.cps p x.cps.size) + 2, ox⟩) :
    codeAny (model prog w) A (.builtin "re.Pattern.sub.loop" ⟨[.ref pa, .str x xt, .str ⟨z⟩ zt, .int 0 0, .int 0 0, .int n 0, .int p 0, .int p 0, .bool false, .ref a, .bool false], []⟩) R ⟨h, g, d, tk, ox⟩ := by
  refine codeAny_builtin entry_subloop ?_
  rw [Around.under_plainId plain_subloop _]
  unfold Builtin.«re.Pattern.sub.loop»
  show wpAny _ _ (reWholeTarget (.ref pa) (.str x xt) >>= _) _ _ _
  refine wpAny_bind (wpAny_wholeTarget (s := ⟨h, g, d, tk, ox⟩) P ?_)
  show wpAny _ _ (reLiteralCannotBeTurned (.str ⟨z⟩ zt) >>= _) _ _ _
  refine wpAny_bind (wpAny_bind (wpAny_pure (wpAny_pure ?_)))
  show wpAny _ _ (reNextFound _ ((p : Int).toNat) false >>= _) _ _ _
  rw [Int.toNat_natCast]
  refine wpAny_bind (wpAny_runToEnd hr hk (.inr ⟨hf, ?_⟩))
  show wpAny _ _ (if (p : Int).toNat < x.cps.size then _ else _) _ _ _
  rw [Int.toNat_natCast]
  by_cases hlt : p < x.cps.size
  · have ec : cutP x.cps p x.cps.size = [(true, (x.cps.extract p x.cps.size).toList)] := by unfold cutP; rw [if_pos hlt]
    rw [ec] at hR htot h2
    rw [if_pos hlt]
    obtain ⟨o, ho, hc, nn, hd⟩ := id hl
    have hsz : (x.cps.extract p x.cps.size).size ≤ 100000 := by rw [Array.size_extract]; lia
    show wpAny _ _ (mkStr ⟨x.cps.extract p x.cps.size⟩ >>= _) _ _ _
    refine wpAny_bind (wpAny_mkStr ?_ (by show (x.cps.extract p x.cps.size).size ≤ sizeLine; unfold sizeLine; lia))
    refine wpAny_bind (wpAny_updateSeq (s := ⟨h, g, d, tk + 1, ox⟩) ho hd ?_ (by simp [strValues]; unfold sizeLine; lia) (by simp [strValues]; unfold sizeLine; lia))
    have hs : Heap.SameBut a h (h.update a (Obj.mapSeq fun v => v.push (.str ⟨x.cps.extract p x.cps.size⟩ tk))) := Heap.SameBut.update ..
    have hl' := push_list (⟨x.cps.extract p x.cps.size⟩ : Str) tk ho hc hd
    have em : ((items ++ [((⟨x.cps.extract p x.cps.size⟩ : Str), tk)]).map (·.1)) = items.map (·.1) ++ [⟨x.cps.extract p x.cps.size⟩] := by simp
    have ecat : catS ((items ++ [((⟨x.cps.extract p x.cps.size⟩ : Str), tk)]).map (·.1)) = catS (items.map (·.1)) ++ flatP [(true, (x.cps.extract p x.cps.size).toList)] := by
      rw [em, catS_app]
      simp [flatP]
    change wpAny (model prog w) A.in1 (reSlice x.cps 0 0 0 >>= fun joiner => seqItems? (.ref a) >>= fun xs => if (xs.getD #[]).isEmpty = true then ((pure joiner : Sem Value) >>= fun text => ret text) else (call (.builtin "str.join") [joiner, .ref a] >>= fun text => ret text)) _ _ _
    refine wp_tail (s := ⟨_, g, d, tk + 1, ox⟩) hl' (by simpa using h2) (by rw [ecat]; exact htot) ?_
    rw [ecat]
    exact hR _ hs.1 fun b hb => hs.2 b hb
  · have ec : cutP x.cps p x.cps.size = [] := by unfold cutP; rw [if_neg hlt]
    rw [ec] at hR htot h2
    rw [if_neg hlt]
    have ef : catS (items.map (·.1)) ++ flatP [] = catS (items.map (·.1)) := by simp [flatP]
    rw [ef] at htot hR
    change wpAny (model prog w) A.in1 (reSlice x.cps 0 0 0 >>= fun joiner => seqItems? (.ref a) >>= fun xs => if (xs.getD #[]).isEmpty = true then ((pure joiner : Sem Value) >>= fun text => ret text) else (call (.builtin "str.join") [joiner, .ref a] >>= fun text => ret text)) _ _ _
    refine wp_tail (s := ⟨h, g, d, tk, ox⟩) hl (by simpa using h2) htot ?_
    exact hR h rfl fun _ _ => rfl
theorem PatAt.but {h h' : Heap} {pa ca a : Addr} {C : Array Nat} (P : PatAt h pa ca C) (hs : ∀ b, b ≠ a → h'.get? b = h.get? b) (h1 : pa ≠ a) (h2 : ca ≠ a) : PatAt h' pa ca C := by
  obtain ⟨o, f0, f1, t2, f3, f4, t6, ho, hc, hd⟩ := P.pat
  obtain ⟨oc, items, n, hoc, hdc, hC⟩ := P.code
  exact ⟨⟨o, f0, f1, t2, f3, f4, t6, (hs _ h1).trans ho, hc, hd⟩, ⟨oc, items, n, (hs _ h2).trans hoc, hdc, hC⟩⟩
theorem loop_ok {pa ca a : Addr} {C : Array Nat} {z : List Nat} {x : Str} {xt : Tok} {g : Array GenState} {d : Drawn} {ox : OsState} {zt : Tok} {R : Result → Shared → Prop} {F : Nat → List Pc}
    (SB : Subs C x.cps z F) (hx : x.cps.size < 100000) (hpa : pa ≠ a) (hca : ca ≠ a) : ∀ (k p : Nat), p + k = x.cps.size → ∀ (n : Int) (items : List (Str × Tok)) (h : Heap) (tk : Nat),
    PatAt h pa ca C → h.IsList a (strValues items).toArray → items.length ≤ 2 * p → (catS (items.map (·.1)) ++ flatP (F p)).length ≤ 500000 → 2 ≤ items.length + (F p).length →
    (∀ h' : Heap, h'.objs.size = h.objs.size → (∀ b, b ≠ a → h'.get? b = h.get? b) → R (.ok (.ret (.str ⟨⟨catS (items.map (·.1)) ++ flatP (F p)⟩⟩ (tk + tkP (F p) + 1)))) ⟨h', g, d, tk + tkP (F p) + 2, ox⟩) →
    codeAny (model prog w) A (.builtin "re.Pattern.sub.loop" ⟨[.ref pa, .str x xt, .str ⟨⟨z⟩⟩ zt, .int 0 0, .int 0 0, .int n 0, .int p 0, .int p 0, .bool false, .ref a, .bool false], []⟩) R ⟨h, g, d, tk, ox⟩ := by
  intro k
  induction k using Nat.strongRecOn with
  | _ k ih =>
    intro p hpk n items h tk P hl hi htot h2 hR
    obtain ⟨nk, f, hk, hr, hcase⟩ := SB.turn p (by lia)
    rcases hcase with ⟨q, e, hpq, hqe, hes, hm, hst, hhd, hF⟩ | ⟨hf, hF⟩
    · refine codeAny_builtin entry_subloop ?_
      rw [Around.under_plainId plain_subloop _]
      unfold Builtin.«re.Pattern.sub.loop»
      show wpAny _ _ (reWholeTarget (.ref pa) (.str x xt) >>= _) _ _ _
      refine wpAny_bind (wpAny_wholeTarget (s := ⟨h, g, d, tk, ox⟩) P ?_)
      show wpAny _ _ (reLiteralCannotBeTurned (.str ⟨⟨z⟩⟩ zt) >>= _) _ _ _
      refine wpAny_bind (wpAny_bind (wpAny_pure (wpAny_pure ?_)))
      show wpAny _ _ (reNextFound _ ((p : Int).toNat) false >>= _) _ _ _
      rw [Int.toNat_natCast]
      refine wpAny_bind (wpAny_runToEnd hr hk (.inl ⟨hm, ?_⟩))
      have step : ∀ (items' : List (Str × Tok)) (h₂ : Heap) (tk₂ : Nat), h₂.objs.size = h.objs.size → (∀ b, b ≠ a → h₂.get? b = h.get? b) → h₂.IsList a (strValues items').toArray → items'.length ≤ items.length + 1 →
          items'.length + 1 + (F e).length = items.length + (F p).length → catS (items'.map (·.1)) ++ (z ++ flatP (F e)) = catS (items.map (·.1)) ++ flatP (F p) → tk₂ + tkP (F e) = tk + tkP (F p) →
          wpAny (model prog w) A.in1 (updateSeq a (·.push (.str ⟨⟨z⟩⟩ zt)) >>= fun _ => again (.builtin "re.Pattern.sub.loop" ⟨[.ref pa, .str x xt, .str ⟨⟨z⟩⟩ zt, .int 0 0, .int 0 0, .int (n + 1) 0, .int f.handed 0, .int f.handed 0, .bool (f.handed == q), .ref a, .bool false], []⟩))
            (fun fin s' => match fin with
              | .done fl => R (.ok fl) s'
              | .again c' => c'.quiet = true ∧ codeAny (model prog w) A c' R s') (fun e s' => R (.error e) s') ⟨h₂, g, d, tk₂, ox⟩ := by
        intro items' h₂ tk₂ hsz hbut hl₂ hi₂ hlen hcat htk
        obtain ⟨o, ho, hc, nn, hd⟩ := id hl₂
        have hq : items'.length ≤ 400000 := by lia
        refine wpAny_bind (wpAny_updateSeq (s := ⟨h₂, g, d, tk₂, ox⟩) ho hd ?_ (by simp [strValues]; unfold sizeLine; lia) (by simp [strValues]; unfold sizeLine; lia))
        refine wpAny_pure ⟨plainId_quiet plain_subloop _, ?_⟩
        have hl' := push_list (⟨⟨z⟩⟩ : Str) zt ho hc hd
        have hs : Heap.SameBut a h₂ (h₂.update a (Obj.mapSeq fun v => v.push (.str ⟨⟨z⟩⟩ zt))) := Heap.SameBut.update ..
        rw [hhd]
        have hne : (e == q) = false := by simp; lia
        rw [hne]
        have em : catS ((items' ++ [((⟨⟨z⟩⟩ : Str), zt)]).map (·.1)) = catS (items'.map (·.1)) ++ z := by
          rw [List.map_append, List.map_cons, List.map_nil, catS_app]
        refine ih (x.cps.size - e) (by lia) e (by lia) (n + 1) (items' ++ [(⟨⟨z⟩⟩, zt)]) _ tk₂ (P.but (fun b hb => (hs.2 b hb).trans (hbut b hb)) hpa hca) hl' (by simp; lia) ?_ ?_ ?_
        · rw [em, List.append_assoc, hcat]; exact htot
        · simp only [List.length_append, List.length_cons, List.length_nil]; lia
        · intro h' hz' hb'
          rw [em, List.append_assoc, hcat, htk]
          exact hR h' (hz'.trans (hs.1.trans hsz)) fun b hb => (hb' b hb).trans ((hs.2 b hb).trans (hbut b hb))
      show wpAny _ _ (if (p : Int).toNat < f.start then _ else _) _ _ _
      rw [Int.toNat_natCast, hst]
      by_cases hlt : p < q
      · have ec : cutP x.cps p q = [(true, (x.cps.extract p q).toList)] := by unfold cutP; rw [if_pos hlt]
        rw [if_pos hlt]
        obtain ⟨o, ho, hc, nn, hd⟩ := id hl
        have hsz : (x.cps.extract p q).size ≤ 100000 := by rw [Array.size_extract]; lia
        show wpAny _ _ (mkStr ⟨x.cps.extract p q⟩ >>= _) _ _ _
        refine wpAny_bind (wpAny_mkStr ?_ (by show (x.cps.extract p q).size ≤ sizeLine; unfold sizeLine; lia))
        refine wpAny_bind (wpAny_updateSeq (s := ⟨h, g, d, tk + 1, ox⟩) ho hd ?_ (by simp [strValues]; unfold sizeLine; lia) (by simp [strValues]; unfold sizeLine; lia))
        have hs : Heap.SameBut a h (h.update a (Obj.mapSeq fun v => v.push (.str ⟨x.cps.extract p q⟩ tk))) := Heap.SameBut.update ..
        refine step (items ++ [(⟨x.cps.extract p q⟩, tk)]) _ (tk + 1) hs.1 hs.2 (push_list _ tk ho hc hd) (by simp) ?_ ?_ ?_
        · rw [hF, ec]; simp; lia
        · rw [hF, ec, List.map_append, List.map_cons, List.map_nil, catS_app]
          simp [flatP]
        · rw [hF, ec]; simp [tkP]; lia
      · have ec : cutP x.cps p q = [] := by unfold cutP; rw [if_neg hlt]
        rw [if_neg hlt]
        refine step items h tk rfl (fun _ _ => rfl) hl (by lia) ?_ ?_ ?_
        · rw [hF, ec]; simp; lia
        · rw [hF, ec]; simp [flatP]
        · rw [hF, ec]; simp [tkP]
    · rw [hF] at htot h2 hR
      exact loop_end P (by lia) hx hl hi htot h2 hk hr hf hR
end
end Mine
namespace Mine
open PySem PySem.W PySem.W.X PySem.Calls PySem.Spec PySem.Builtin PySem.Builtin.Str PySem.Builtin.Re
section
variable {t : Array Nat}
theorem drop_cons {p : Nat} (h : p < t.size) : t.toList.drop p = t.getD p 0 :: t.toList.drop (p + 1) := by
  have h' : p < t.toList.length := by simpa using h
  rw [List.drop_eq_getElem_cons h']
  congr 1
  simp [Array.getD, h]
theorem drop_end : t.toList.drop t.size = [] := by simp
theorem cutP_is (p q : Nat) (hq : q ≤ t.size) : cutP t p q = flushP ((t.toList.drop p).take (q - p)) := by
  unfold cutP
  by_cases h : p < q
  · rw [if_pos h]
    have e : (t.extract p q).toList = (t.toList.drop p).take (q - p) := by simp
    rw [e, drop_cons (by lia)]
    have : q - p = (q - p - 1) + 1 := by lia
    rw [this, List.take_succ_cons]
    rfl
  · rw [if_neg h]
    have : q - p = 0 := by lia
    rw [this]; rfl
-- ends
theorem endsP_no {c : Nat} {l cur : List Nat} (h : ¬ (c = 10 ∨ c = 13)) : endsP (c :: l) cur = endsP l (cur ++ [c]) := by
  rw [endsP]
  all_goals (intro e; exact h (by simp [e]))
theorem endsP_13 {l cur : List Nat} (h : ∀ r, l ≠ 10 :: r) : endsP (13 :: l) cur = flushP cur ++ (false, [13, 10]) :: endsP l [] := by
  rw [endsP]
  intro r e
  exact h r e
theorem ends_run : ∀ (k p : Nat) (cur : List Nat), p + k ≤ t.size → (∀ j, p ≤ j → j < p + k → ¬ hitE t j) → endsP (t.toList.drop p) cur = endsP (t.toList.drop (p + k)) (cur ++ (t.toList.drop p).take k)
  | 0, p, cur, _, _ => by simp
  | k + 1, p, cur, h, hn => by
    rw [drop_cons (by lia), endsP_no (hn p (Nat.le_refl p) (by lia)), ends_run k (p + 1) _ (by lia) fun j j1 j2 => hn j (by lia) (by lia)]
    rw [List.take_succ_cons]
    have e : p + 1 + k = p + (k + 1) := by lia
    rw [e]
    simp
theorem ends_hit {q : Nat} (hq : q < t.size) (hh : hitE t q) (cur : List Nat) : endsP (t.toList.drop q) cur = flushP cur ++ (false, [13, 10]) :: endsP (t.toList.drop (q + widE t t.size q)) [] := by
  rw [drop_cons hq]
  rcases hh with h | h
  · rw [h]
    have : widE t t.size q = 1 := by unfold widE; rw [if_neg (by rw [h]; simp)]
    rw [this]; rfl
  · rw [h]
    by_cases h1 : q + 1 < t.size ∧ t.getD (q + 1) 0 = 10
    · have : widE t t.size q = 2 := by unfold widE; rw [if_pos ⟨h, h1.1, h1.2⟩]
      rw [this, drop_cons h1.1, h1.2]; rfl
    · have : widE t t.size q = 1 := by unfold widE; rw [if_neg (fun z => h1 z.2)]
      rw [this]
      rcases Nat.lt_or_ge (q + 1) t.size with h2 | h2
      · rw [drop_cons h2]
        have h3 : t.getD (q + 1) 0 ≠ 10 := fun z => h1 ⟨h2, z⟩
        rw [endsP_13 fun r e => by injection e with e1 e2; exact h3 e1]
      · have : q + 1 = t.size := by lia
        rw [this, drop_end]; rfl
theorem subs_ends (hx : t.size < 100000) : Subs eC t [13, 10] (fun p => endsP (t.toList.drop p) []) where
  turn := fun p hp => by
    obtain ⟨k, f, hk, hr, hc⟩ := (ends_search t p hp).run
    refine ⟨k, f, by lia, hr, ?_⟩
    rcases hc with ⟨q, h1, h2, h3, h4, h5, h6, h7⟩ | ⟨h1, h2⟩
    · have hw : widE t t.size q = 1 ∨ (widE t t.size q = 2 ∧ q + 1 < t.size) := by
        by_cases z : t.getD q 0 = 13 ∧ q + 1 < t.size ∧ t.getD (q + 1) 0 = 10
        · exact .inr ⟨by unfold widE; rw [if_pos z], z.2.1⟩
        · exact .inl (by unfold widE; rw [if_neg z])
      refine .inl ⟨q, q + widE t t.size q, h1, by lia, by lia, h5, h6, h7, ?_⟩
      have e := ends_run (t := t) (q - p) p [] (by lia) fun j j1 j2 => h4 j j1 (by lia)
      have e2 : p + (q - p) = q := by lia
      rw [e2, List.nil_append] at e
      rw [e, ends_hit h2 h3, cutP_is p q (by lia)]
    · refine .inr ⟨h2, ?_⟩
      have e := ends_run (t := t) (t.size - p) p [] (by lia) fun j j1 j2 => h1 j j1 (by lia)
      have e2 : p + (t.size - p) = t.size := by lia
      rw [e2, List.nil_append, drop_end] at e
      rw [e, cutP_is p t.size (Nat.le_refl _)]
      rfl
-- dots
noncomputable def bolAt (t : Array Nat) (p : Nat) : Bool := p == 0 || t.getD (p - 1) 0 == 10
theorem dotsP_no {c : Nat} {l cur : List Nat} {b : Bool} (h : ¬ (b = true ∧ c = 46)) : dotsP (c :: l) b cur = dotsP l (c == 10) (cur ++ [c]) := by
  by_cases h1 : c = 46
  · subst h1
    cases b with
    | true => exact absurd ⟨rfl, rfl⟩ h
    | false => rfl
  · by_cases h2 : c = 10
    · subst h2; rfl
    · have : (c == 10) = false := by simpa using h2
      rw [this, dotsP]
      all_goals (intro e; first | exact h1 e | exact h2 e)
theorem dots_runs : ∀ (k p : Nat) (cur : List Nat), p + k ≤ t.size → (∀ j, p ≤ j → j < p + k → ¬ hitD t j) → dotsP (t.toList.drop p) (bolAt t p) cur = dotsP (t.toList.drop (p + k)) (bolAt t (p + k)) (cur ++ (t.toList.drop p).take k)
  | 0, p, cur, _, _ => by simp
  | k + 1, p, cur, h, hn => by
    have h0 : ¬ (bolAt t p = true ∧ t.getD p 0 = 46) := hn p (Nat.le_refl p) (by lia)
    have e0 : (t.getD p 0 == 10) = bolAt t (p + 1) := by unfold bolAt; simp
    rw [drop_cons (by lia), dotsP_no h0, e0, dots_runs k (p + 1) _ (by lia) fun j j1 j2 => hn j (by lia) (by lia)]
    rw [List.take_succ_cons]
    have e : p + 1 + k = p + (k + 1) := by lia
    rw [e]
    simp
theorem dots_hit {q : Nat} (hq : q < t.size) (hh : hitD t q) (cur : List Nat) : dotsP (t.toList.drop q) (bolAt t q) cur = flushP cur ++ (false, [46, 46]) :: dotsP (t.toList.drop (q + 1)) (bolAt t (q + 1)) [] := by
  have hb : bolAt t q = true := hh.1
  have hb2 : bolAt t (q + 1) = false := by
    unfold bolAt
    rw [Nat.add_sub_cancel, hh.2]
    simp
  rw [drop_cons hq, hb, hh.2, hb2]
  rfl
theorem subs_dots (hx : t.size < 100000) : Subs dC t [46, 46] (fun p => dotsP (t.toList.drop p) (bolAt t p) []) where
  turn := fun p hp => by
    obtain ⟨k, f, hk, hr, hc⟩ := (dots_search t p hp).run
    refine ⟨k, f, by lia, hr, ?_⟩
    rcases hc with ⟨q, h1, h2, h3, h4, h5, h6, h7⟩ | ⟨h1, h2⟩
    · refine .inl ⟨q, q + 1, h1, by lia, by lia, h5, h6, h7, ?_⟩
      have e := dots_runs (t := t) (q - p) p [] (by lia) fun j j1 j2 => h4 j j1 (by lia)
      have e2 : p + (q - p) = q := by lia
      rw [e2, List.nil_append] at e
      rw [e, dots_hit h2 h3, cutP_is p q (by lia)]
    · refine .inr ⟨h2, ?_⟩
      have e := dots_runs (t := t) (t.size - p) p [] (by lia) fun j j1 j2 => h1 j j1 (by lia)
      have e2 : p + (t.size - p) = t.size := by lia
      rw [e2, List.nil_append, drop_end] at e
      rw [e, cutP_is p t.size (Nat.le_refl _)]
      cases bolAt t t.size <;> rfl
end
end Mine
namespace Mine
open PySem PySem.W PySem.W.X PySem.Calls PySem.Spec
section
variable {prog : Program} {w : World} {A : Around} {s : Shared}
theorem iter_self {it : Addr} {o : Obj} {cn : String} {Er : Value → Shared → Prop} {Q : Value → Shared → Prop} (ho : s.heap.get? it = some o) (hc : o.cls = .type cn) (hn : isIterN (nm cn) = true) (h : Q (.ref it) s) :
    wpAny (model prog w) A (pyIter (.ref it)) Q Er s := by
  unfold isIterN at hn
  split at hn
  · rename_i q
    have := nm_is "list_iterator" q (by decide +kernel)
    subst this
    have hT : s.TypeIs (.ref it) "list_iterator" := ⟨o, ho, hc⟩
    refine wpAny_pyIter_slot hT slot_listiter_iter (wpAny_call_entry slot_listiter_iter hT entry_listiter_iter ?_ (args_listiter_iter _))
    show wpAny _ _ (ret (.ref it)) _ _ s
    exact wpAny_pure ⟨_, rfl, "list_iterator", _, hT, slot_listiter_next.lookup, h⟩
  · split at hn
    · rename_i q
      have := nm_is "range_iterator" q (by decide +kernel)
      subst this
      have hT : s.TypeIs (.ref it) "range_iterator" := ⟨o, ho, hc⟩
      refine wpAny_pyIter_slot hT F.slot_range_iterator_iter (wpAny_call_entry F.slot_range_iterator_iter hT F.entry_range_iterator_iter ?_ (F.args_range_iterator_iter_1 _))
      show wpAny _ _ (ret (.ref it)) _ _ s
      exact wpAny_pure ⟨_, rfl, "range_iterator", _, hT, F.slot_range_iterator_next.lookup, h⟩
    · split at hn
      · rename_i q
        have := nm_is "str_ascii_iterator" q (by decide +kernel)
        subst this
        have hT : s.TypeIs (.ref it) "str_ascii_iterator" := ⟨o, ho, hc⟩
        refine wpAny_pyIter_slot hT F.slot_str_ascii_iterator_iter (wpAny_call_entry F.slot_str_ascii_iterator_iter hT F.entry_str_ascii_iterator_iter ?_ (F.args_str_ascii_iterator_iter_1 _))
        show wpAny _ _ (ret (.ref it)) _ _ s
        exact wpAny_pure ⟨_, rfl, "str_ascii_iterator", _, hT, F.slot_str_ascii_iterator_next.lookup, h⟩
      · have := nm_is "tuple_iterator" hn (by decide +kernel)
        subst this
        have hT : s.TypeIs (.ref it) "tuple_iterator" := ⟨o, ho, hc⟩
        refine wpAny_pyIter_slot hT F.slot_tuple_iterator_iter (wpAny_call_entry F.slot_tuple_iterator_iter hT F.entry_tuple_iterator_iter ?_ (F.args_tuple_iterator_iter_1 _))
        show wpAny _ _ (ret (.ref it)) _ _ s
        exact wpAny_pure ⟨_, rfl, "tuple_iterator", _, hT, F.slot_tuple_iterator_next.lookup, h⟩
theorem wpOwn_onRaise {c : Code} {α : Type} {m : Sem α} {k : Value → Sem Unit} {Q : α → Shared → Prop} {F : Value → Shared → Prop} (h : wpOwn (model prog w) A c m Q never s) : wpOwn (model prog w) A c (m.onRaise k) Q F s := fun Γ p hc hΓ => by
  rw [Sem.wp_onRaise]
  exact Sem.wp_mono _ Γ m (fun _ _ _ h => h) (fun _ _ _ h => h.elim) p s (h Γ p hc hΓ)
theorem wpOwn_never {c : Code} {α : Type} {m : Sem α} {Q : α → Shared → Prop} {F : Value → Shared → Prop} (h : wpOwn (model prog w) A c m Q never s) : wpOwn (model prog w) A c m Q F s :=
  wpOwn_mono h (fun _ _ x => x) fun _ _ x => x.elim
theorem comp_ok {e : PySem.Expr} {d : Nat} {a : Addr} {acc : Value} {env : Env} (hg : isGenE e = false) {c : Code} {Q : Fin → Shared → Prop} {F : Value → Shared → Prop} (h : wpOwn (model prog w) A c (compT e d a acc env) Q F s) :
    wpOwn (model prog w) A c (denote table (.compStart e d (.ref a) acc env)) Q F s := by
  have hfr : (Code.compStart e d (.ref a) acc env).isFrame = false := by
    cases e <;> first | rfl | cases hg
  have hd : denote table (.compStart e d (.ref a) acc env) = (PySem.compStart e d (.ref a) acc env).onRaise (fun x => do noteFrame x env; standAt theWindowsPlace) := by
    show (if (Code.compStart e d (.ref a) acc env).isFrame = true then _ else _) = _
    rw [if_neg (by rw [hfr]; exact Bool.false_ne_true)]
  rw [hd]
  intro Γ p hc hΓ
  have H := h Γ p hc hΓ
  unfold compT at H
  rw [Sem.wp_load] at H
  obtain ⟨o, ho, H⟩ := H
  split at H
  · rename_i cn hcl
    split at H
    · rename_i hn
      rw [Sem.wp_pure] at H
      refine wpOwn_onRaise (c := c) ?_ Γ p hc hΓ
      have fin : wpOwn (model prog w) A c (again (.compLoop e d (.ref a) acc env) : Sem Fin) Q never s := fun Γ' p' hc' hΓ' => H
      unfold PySem.compStart
      split
      · exact fin
      · refine wpOwn_bind (wpOwn_of_wpAny (wpAny_askSetting ?_))
        split
        · exact fin
        · refine wpOwn_bind (wpOwn_of_wpAny (wpAny_rule ?_))
          have rest : wpOwn (model prog w) A c (pyIter (.ref a) >>= fun it => again (.compLoop e d it acc env)) Q never s :=
            wpOwn_bind (wpOwn_of_wpAny (iter_self ho hcl hn fin))
          split
          · exact wpOwn_bind (wpOwn_of_wpAny (wpAny_standAt rest))
          · exact rest
    · exact H.elim
  · exact H.elim

theorem nx (t : Sem Fin) (f : Flow → XT) (c : Code) (Q : Fin → Shared → Prop) (F : Value → Shared → Prop) : wpXT prog w A c Q F (.seg t f) s = wpOwn (model prog w) A c t (onDone fun x s' => wpXT prog w A c Q F (f x) s') never s := rfl
theorem bad_any {c : Code} {α : Type} {t : Sem α} {Q : Fin → Shared → Prop} {F : Value → Shared → Prop} {Q' : α → Shared → Prop} {F' : Value → Shared → Prop} (h : wpXT prog w A c Q F bad s) : wpOwn (model prog w) A c t Q' F' s :=
  fun Γ p hc hΓ => ((h : wpOwn (model prog w) A c (.unsupported "mine" : Sem Fin) Q F s) Γ p hc hΓ).elim
/-- a part that hands on by its flow -/
theorem seg_val {c : Code} {α β : Type} {m : Sem α} {g : α → Flow} {f : Flow → XT} {Q : Fin → Shared → Prop} {F : Value → Shared → Prop} {k : α → Sem β} {Q' : β → Shared → Prop}
    (h : wpXT prog w A c Q F (.seg (m >>= fun a => Sem.pure (.done (g a))) f) s) (hk : ∀ a s', wpXT prog w A c Q F (f (g a)) s' → wpOwn (model prog w) A c (k a) Q' never s') : wpOwn (model prog w) A c (m >>= k) Q' never s := by
  rw [nx] at h
  intro Γ p hc hΓ
  have H := h Γ p hc hΓ
  rw [Sem.wp_bind'] at H ⊢
  refine Sem.wp_mono _ Γ _ (fun a p' s' h' => ?_) (fun _ _ _ h' => h') p s H
  rw [Sem.wp_pure] at h'
  exact hk a s' h' Γ p' hc hΓ
theorem seg_exec {c : Code} {st : Stmt} {env : Env} {f : Flow → XT} {Q : Fin → Shared → Prop} {F : Value → Shared → Prop} {k : Flow → Sem Fin}
    (h : wpXT prog w A c Q F (xPlain st env f) s) (hk : ∀ a s', wpXT prog w A c Q F (f a) s' → wpOwn (model prog w) A c (k a) Q never s') : wpOwn (model prog w) A c (exec st env >>= k) Q never s := by
  unfold xPlain at h
  rw [← ZFast.ze12563942051412417395, ← R.bindR_eq] at h
  have h2 := seg_val (m := execs [st] env) (g := id) (f := f) (k := k) h hk
  have e : execs [st] env = (exec st env >>= fun f => Sem.pure f) := by
    rw [execs_cons]
    refine congrArg (Sem.bind (exec st env)) (funext fun f => ?_)
    cases f <;> rfl
  rw [e, bind_assoc] at h2
  exact h2
theorem execs_k {st : Stmt} {rest : List Stmt} {env : Env} {k : Flow → Sem Fin} : (execs (st :: rest) env >>= k) = (exec st env >>= fun f => match f with
    | .next => execs rest env >>= k
    | f => k f) := by
  rw [execs_cons, bind_assoc]
  refine congrArg (Sem.bind (exec st env)) (funext fun f => ?_)
  cases f <;> rfl
theorem wpOwn_at {c : Code} {α : Type} {pos : Pos} {t : Sem α} {Q : α → Shared → Prop} {F : Value → Shared → Prop} (h : wpOwn (model prog w) A c t Q F s) : wpOwn (model prog w) A c (standAt pos >>= fun _ => t) Q F s :=
  fun Γ p hc hΓ => h Γ pos hc hΓ
theorem truthy_bool_is (b : Bool) : truthy (.bool b) = Sem.pure b := rfl
theorem operate_own {c : Code} {vs : List Value} {α : Type} {m : Sem Value} {k : Value → Sem α} {Q : α → Shared → Prop} {F : Value → Shared → Prop} (h : wpOwn (model prog w) A c (m >>= k) Q F s) : wpOwn (model prog w) A c (operate vs m >>= k) Q F s :=
  fun Γ p hc hΓ => by
    have := h Γ p hc hΓ
    rw [Sem.wp_bind'] at this ⊢
    rw [Sem.wp_operate]
    exact this
/-- the comparison of a statement -/
theorem cmp_ok {op : CmpOp} {l r : PySem.Expr} {cpos pos : Pos} {env : Env} {K : Value → XT} {c : Code} {Q : Fin → Shared → Prop} {F : Value → Shared → Prop} {k : Value → Sem Fin} (h : wpXT prog w A c Q F (xCmp op l r cpos pos env K) s)
    (hk : ∀ v s', wpXT prog w A c Q F (K v) s' → wpOwn (model prog w) A c (k v) Q never s') :
    wpOwn (model prog w) A c (standAt pos >>= fun _ => eval l env >>= fun a => holding [a] (eval r env) >>= fun b => standAt cpos >>= fun _ => operate [a, b] (compareOp op a b) >>= k) Q never s := by
  unfold xCmp at h
  rw [← ZFast.ze14044960220447912780, ← R.bindR_eq, ← ZFast.ze17359229931016689406] at h
  rw [nx] at h
  intro Γ p hc hΓ
  have H := h Γ p hc hΓ
  rw [Sem.wp_at] at H
  show Sem.wp (model prog w) Γ (eval l env >>= _) _ _ pos s
  have H' : Sem.wp (model prog w) Γ (eval l env >>= fun a => Sem.pure (Fin.done (Flow.ret a))) _ _ pos s := H
  rw [Sem.wp_bind'] at H' ⊢
  refine Sem.wp_mono _ Γ _ (fun a p1 s1 h1 => ?_) (fun _ _ _ h' => h') pos s H'
  rw [Sem.wp_pure] at h1
  have h2 := (h1 : wpOwn (model prog w) A c _ _ never s1) Γ p1 hc hΓ
  have h2' : Sem.wp (model prog w) Γ (holding [a] (eval r env) >>= fun b => Sem.at cpos fun _ => (Sem.pure (Fin.done (Flow.ret b)))) _ _ p1 s1 := h2
  rw [Sem.wp_bind'] at h2' ⊢
  refine Sem.wp_mono _ Γ _ (fun b p2 s2 h3 => ?_) (fun _ _ _ h' => h') p1 s1 h2'
  rw [Sem.wp_at, Sem.wp_pure] at h3
  have h4 : wpAny (model prog w) (A.under c) (compareOp op a b) (fun v s' => wpXT prog w A c Q F (K v) s') (fun _ _ => False) s2 := h3
  show Sem.wp (model prog w) Γ (operate [a, b] (compareOp op a b) >>= k) _ _ cpos s2
  have h5 : wpOwn (model prog w) A c (compareOp op a b >>= k) Q never s2 := by
    refine wpOwn_bind (wpOwn_of_wpAny (wpAny_mono h4 (fun v s' h' => hk v s' h') fun _ _ x => x.elim))
  exact operate_own h5 Γ cpos hc hΓ
theorem if_ok {test : PySem.Expr} {pos : Pos} {env : Env} {yes no : XT} {c : Code} {Q : Fin → Shared → Prop} {F : Value → Shared → Prop} {k : Bool → Sem Fin} (h : wpXT prog w A c Q F (xIf test pos env yes no) s)
    (hy : ∀ s', wpXT prog w A c Q F yes s' → wpOwn (model prog w) A c (k true) Q never s') (hn : ∀ s', wpXT prog w A c Q F no s' → wpOwn (model prog w) A c (k false) Q never s') :
    wpOwn (model prog w) A c (standAt pos >>= fun _ => isTrue test env (eval test env) >>= k) Q never s := by
  unfold xIf at h
  rw [← ZFast.ze14044960220447912780, ← R.bindR_eq, ← ZFast.ze15418851999007992765] at h
  rw [nx] at h
  intro Γ p hc hΓ
  have H := h Γ p hc hΓ
  rw [Sem.wp_at] at H
  show Sem.wp (model prog w) Γ (isTrue test env (eval test env) >>= _) _ _ pos s
  have H' : Sem.wp (model prog w) Γ (isTrue test env (eval test env) >>= fun b => Sem.pure (Fin.done (Flow.ret (.bool b)))) _ _ pos s := H
  rw [Sem.wp_bind'] at H' ⊢
  refine Sem.wp_mono _ Γ _ (fun b p1 s1 h1 => ?_) (fun _ _ _ h' => h') pos s H'
  rw [Sem.wp_pure] at h1
  cases b with
  | true => exact hy s1 h1 Γ p1 hc hΓ
  | false => exact hn s1 h1 Γ p1 hc hΓ
theorem execs_ok {c : Code} {Q : Fin → Shared → Prop} {F : Value → Shared → Prop} : ∀ (n : Nat) (l : List Stmt) (env : Env) (K : Flow → XT) (k : Flow → Sem Fin), (∀ f s', wpXT prog w A c Q F (K f) s' → wpOwn (model prog w) A c (k f) Q never s') →
    ∀ s, wpXT prog w A c Q F (xExecs n l env K) s → wpOwn (model prog w) A c (execs l env >>= k) Q never s
  | 0, _, _, _, _, _, _, h => bad_any h
  | n + 1, [], env, K, k, hk, s, h => hk .next s h
  | n + 1, st :: rest, env, K, k, hk, s, h => by
    have hk' : ∀ (f : Flow) (s' : Shared), wpXT prog w A c Q F (match f with
        | .next => xExecs n rest env K
        | f => K f) s' → wpOwn (model prog w) A c (match f with
        | .next => execs rest env >>= k
        | f => k f) Q never s' := fun f s' h' => by
      cases f with
      | next => exact execs_ok n rest env K k hk s' h'
      | brk => exact hk _ s' h'
      | cont => exact hk _ s' h'
      | ret v => exact hk _ s' h'
    rw [execs_k]
    unfold xExecs at h
    dsimp only at h
    split at h
    · rename_i test body orelse pos
      have branch : ∀ (L : List Stmt) (s' : Shared), wpXT prog w A c Q F (xExecs n L env fun f => match f with
          | .next => xExecs n rest env K
          | f => K f) s' → wpOwn (model prog w) A c (execs L env >>= fun f => match f with
          | .next => execs rest env >>= k
          | f => k f) Q never s' := fun L s' h' => execs_ok n L env _ _ hk' s' h'
      split at h
      · rename_i l r cpos
        have e : (exec (.If (.Compare l [.NotEq] [r] cpos) body orelse pos) env >>= fun f => match f with
            | .next => execs rest env >>= k
            | f => k f) = (standAt pos >>= fun _ => eval l env >>= fun a => holding [a] (eval r env) >>= fun b => standAt cpos >>= fun _ => operate [a, b] (compareOp .NotEq a b) >>= fun v =>
              holding [v] (truthy v) >>= fun b => (if b then execs body env else execs orelse env) >>= fun f => match f with
            | .next => execs rest env >>= k
            | f => k f) := by
          rw [exec_If, isTrue_Compare1, markedBehindIn_of_false (by cases r <;> first | rfl | simp [behindInMarks])]
          simp only [bind_assoc]
        rw [e]
        refine cmp_ok h fun v s' h' => ?_
        split at h'
        · rename_i b
          have et : (holding [Value.bool b] (truthy (.bool b)) >>= fun b => (if b = true then execs body env else execs orelse env) >>= fun f => match f with
            | .next => execs rest env >>= k
            | f => k f) = ((if b = true then execs body env else execs orelse env) >>= fun f => match f with
            | .next => execs rest env >>= k
            | f => k f) := rfl
          rw [et]
          cases b with
          | true => exact branch body s' h'
          | false => exact branch orelse s' h'
        · exact bad_any h'
      · have e : (exec (.If test body orelse pos) env >>= fun f => match f with
            | .next => execs rest env >>= k
            | f => k f) = (standAt pos >>= fun _ => isTrue test env (eval test env) >>= fun b => (if b then execs body env else execs orelse env) >>= fun f => match f with
            | .next => execs rest env >>= k
            | f => k f) := by
          rw [exec_If]
          simp only [bind_assoc]
        rw [e]
        exact if_ok h (fun s' h' => branch body s' h') fun s' h' => branch orelse s' h'
    · rename_i v pos
      split at h
      · rename_i l r cpos
        have e : (exec (.Return (some (.Compare l [.Eq] [r] cpos)) pos) env >>= fun f => match f with
            | .next => execs rest env >>= k
            | f => k f) = (standAt pos >>= fun _ => eval l env >>= fun a => holding [a] (eval r env) >>= fun b => standAt cpos >>= fun _ => operate [a, b] (compareOp .Eq a b) >>= fun v => k (.ret v)) := by
          rw [exec_Return_some, eval_Compare1, markedBehindIn_of_false (by cases r <;> first | rfl | simp [behindInMarks])]
          simp only [bind_assoc]
          rfl
        rw [e]
        exact cmp_ok h fun v s' h' => hk _ s' h'
      · exact seg_exec h hk'
    · exact seg_exec h hk'
theorem for_ok {target : PySem.Expr} {it : Value} {body orelse : List Stmt} {env : Env} {c : Code} {Q : Fin → Shared → Prop} {F : Value → Shared → Prop} (h : wpXT prog w A c Q F (xFor target it body orelse env) s) :
    wpOwn (model prog w) A c (denote table (.forLoop target it body orelse env)) Q F s := by
  show wpOwn (model prog w) A c ((forTurn target it body orelse env).onRaise _) Q F s
  refine wpOwn_onRaise ?_
  unfold xFor at h
  rw [nx] at h
  unfold forHead at h
  rw [← ZFast.ze9404975358583537561, ← R.bindR_eq, ← ZFast.ze1578499551869305889, ← ZFast.ze17772580674575903948] at h
  intro Γ p hc hΓ
  have H := h Γ p hc hΓ
  rw [Sem.wp_at] at H
  unfold forTurn
  have H' : Sem.wp (model prog w) Γ (pyNext it >>= fun o => match o with
    | none => Sem.pure (Fin.done .brk)
    | some v => letOwnedTupleGo target it v >>= fun _ => assign target env v >>= fun _ => Sem.pure (Fin.done .next)) _ _ target.pos s := H
  show Sem.wp (model prog w) Γ ((pyNext it).onRaise _ >>= _) _ _ target.pos s
  rw [Sem.wp_bind'] at H' ⊢
  rw [Sem.wp_onRaise]
  refine Sem.wp_mono _ Γ _ (fun o p1 s1 h1 => ?_) (fun _ _ _ h' => h'.elim) target.pos s H'
  cases o with
  | none => exact (h1 : wpOwn (model prog w) A c (Sem.pure (Fin.again (.block orelse env))) Q F s1) Γ p1 hc hΓ
  | some v =>
    have h1' : Sem.wp (model prog w) Γ (letOwnedTupleGo target it v >>= fun _ => assign target env v >>= fun _ => Sem.pure (Fin.done .next)) _ _ p1 s1 := h1
    show Sem.wp (model prog w) Γ (letOwnedTupleGo target it v >>= fun _ => assign target env v >>= fun _ => _) _ _ p1 s1
    rw [Sem.wp_bind'] at h1' ⊢
    refine Sem.wp_mono _ Γ _ (fun _ p2 s2 h2 => ?_) (fun _ _ _ h' => h'.elim) p1 s1 h1'
    rw [Sem.wp_bind'] at h2 ⊢
    refine Sem.wp_mono _ Γ _ (fun _ p3 s3 h3 => ?_) (fun _ _ _ h' => h'.elim) p2 s2 h2
    rw [Sem.wp_pure] at h3
    exact execs_ok 50 body env _ _ (fun f s' hf => by
      cases f with
      | next => exact hf
      | brk => exact hf
      | cont => exact hf
      | ret v => exact hf) s3 h3 Γ p3 hc hΓ
theorem rawInt_beq (a : Nat) : (some (rawInt a) == some (rawInt a)) = true := by
  show (rawInt a == rawInt a) = true
  exact beq_self_eq_true _
theorem owned_is {target : PySem.Expr} {r a : Addr} {o : Obj} {cn : String} {dd : Option Addr} {l : List Value} {sl : Array (Option Value)} (ht : isTup target = true) (hcn : cn = "dict_itemiterator") (ho : s.heap.get? r = some o) (he : o = ⟨.type cn, dd, .fields ⟨rawInt a :: l⟩, sl⟩) {Γ : PySem.Ctx} {p : Pos} {E : Value → Pos → Shared → Prop} {Q : Unit → Pos → Shared → Prop}
    (h : Sem.wp (model prog w) Γ (updateField r 0 .none) Q E p s) : Sem.wp (model prog w) Γ (letOwnedTupleGo target (.ref r) (.ref a)) Q E p s := by
  cases target <;> first | cases ht | skip
  subst hcn; subst he
  show Sem.wp (model prog w) Γ (PySem.load r >>= _) Q E p s
  rw [Sem.wp_bind']
  show Sem.wp (model prog w) Γ (Sem.load r none Sem.pure) _ E p s
  rw [Sem.wp_load]
  refine ⟨_, ho, ?_⟩
  rw [Sem.wp_pure]
  have hb : ((["enumerate", "zip", "dict_itemiterator", "dict_reverseitemiterator", "odict_iterator", "itertools.zip_longest", "itertools.pairwise"] : List String).contains "dict_itemiterator" && (#[] ++ (⟨rawInt a :: l⟩ : Array Value))[0]? == some (rawInt a)) = true := by
    have e1 : ((["enumerate", "zip", "dict_itemiterator", "dict_reverseitemiterator", "odict_iterator", "itertools.zip_longest", "itertools.pairwise"] : List String).contains "dict_itemiterator") = true := by decide
    rw [e1, Bool.true_and, Array.empty_append]
    exact rawInt_beq a
  rw [Array.empty_append] at hb
  dsimp only
  rw [if_pos hb]
  show Sem.wp (model prog w) Γ (rule "for.unpacks-the-owned-tuple" >>= fun _ => updateField r 0 .none) Q E p s
  rw [Sem.wp_bind']
  exact h
theorem forT_ok {target : PySem.Expr} {r : Addr} {body orelse : List Stmt} {env : Env} {c : Code} {Q : Fin → Shared → Prop} {F : Value → Shared → Prop} (ht : isTup target = true) (h : wpXT prog w A c Q F (xForT target r body orelse env) s) :
    wpOwn (model prog w) A c (denote table (.forLoop target (.ref r) body orelse env)) Q F s := by
  show wpOwn (model prog w) A c ((forTurn target (.ref r) body orelse env).onRaise _) Q F s
  refine wpOwn_onRaise ?_
  unfold xForT at h
  rw [nx] at h
  rw [← ZFast.ze9404975358583537561, ← R.bindR_eq, ← ZFast.ze12367529300394763782, ← ZFast.ze17772580674575903948] at h
  intro Γ p hc hΓ
  have H := h Γ p hc hΓ
  rw [Sem.wp_at] at H
  unfold forTurn
  have H' : Sem.wp (model prog w) Γ (pyNext (.ref r) >>= fun o => match o with
    | none => Sem.pure (Fin.done .brk)
    | some v => Sem.pure (Fin.done (.ret v))) _ _ target.pos s := H
  show Sem.wp (model prog w) Γ ((pyNext (.ref r)).onRaise _ >>= _) _ _ target.pos s
  rw [Sem.wp_bind'] at H' ⊢
  rw [Sem.wp_onRaise]
  refine Sem.wp_mono _ Γ _ (fun o p1 s1 h1 => ?_) (fun _ _ _ h' => h'.elim) target.pos s H'
  cases o with
  | none => exact (h1 : wpOwn (model prog w) A c (Sem.pure (Fin.again (.block orelse env))) Q F s1) Γ p1 hc hΓ
  | some v =>
    rw [Sem.wp_pure] at h1
    cases v with
    | ref a =>
      have h2 : wpOwn (model prog w) A c (Sem.load r none _) _ never s1 := h1
      have h3 := h2 Γ p1 hc hΓ
      rw [Sem.wp_load] at h3
      obtain ⟨o, ho, h3⟩ := h3
      show Sem.wp (model prog w) Γ (letOwnedTupleGo target (.ref r) (.ref a) >>= fun _ => assign target env (.ref a) >>= fun _ => _) _ _ p1 s1
      rw [Sem.wp_bind']
      split at h3
      · rename_i cn dd w' l sl
        split at h3
        · rename_i hn
          rw [Sem.wp_pure] at h3
          have h3' : w' = rawInt a ∧ wpOwn (model prog w) A c _ _ never s1 := h3
          obtain ⟨hw, h4⟩ := h3'
          subst hw
          refine owned_is ht (nm_is "dict_itemiterator" hn (by decide +kernel)) ho rfl (Q := fun _ p' s' => _) ?_
          have h5 := h4 Γ p1 hc hΓ
          have h6 : Sem.wp (model prog w) Γ (updateField r 0 .none >>= fun _ => assign target env (.ref a) >>= fun _ => Sem.pure (Fin.done .next)) _ _ p1 s1 := h5
          rw [Sem.wp_bind'] at h6
          refine Sem.wp_mono _ Γ _ (fun _ p2 s2 h7 => ?_) (fun _ _ _ h' => h'.elim) p1 s1 h6
          rw [Sem.wp_bind'] at h7 ⊢
          refine Sem.wp_mono _ Γ _ (fun _ p3 s3 h8 => ?_) (fun _ _ _ h' => h'.elim) p2 s2 h7
          rw [Sem.wp_pure] at h8
          exact execs_ok 50 body env _ _ (fun f s' hf => by
            cases f with
            | next => exact hf
            | brk => exact hf
            | cont => exact hf
            | ret v => exact hf) s3 h8 Γ p3 hc hΓ
        · exact h3.elim
      · exact h3.elim
    | _ => exact (bad_any (t := (Sem.pure (Fin.done .next) : Sem Fin)) (Q' := fun _ _ => False) (F' := fun _ _ => False) h1 Γ p1 hc hΓ).elim
theorem func_ok {body : List Stmt} {env : Env} {c : Code} {Q : Fin → Shared → Prop} {F : Value → Shared → Prop} (h : wpXT prog w A c Q F (xFunc body env) s) : wpOwn (model prog w) A c (denote table (.func body env)) Q F s := by
  have h2 := execs_ok 50 body env _ (fun f => match f with
      | .ret v => (Sem.pure (.done (.ret v)) : Sem Fin)
      | _ => Sem.pure (.done (.ret .none))) (fun f s' hf => by
    cases f with
    | next => exact hf
    | brk => exact hf
    | cont => exact hf
    | ret v => exact hf) s h
  intro Γ p hc hΓ
  have H := h2 Γ p hc hΓ
  rw [Sem.wp_bind'] at H
  show Sem.wp (model prog w) Γ (point >>= fun _ => (execs body env).onRaise (leaving env) >>= _) _ _ p s
  rw [Sem.wp_bind']
  show Sem.wp (model prog w) Γ ((execs body env).onRaise (leaving env) >>= _) _ _ p s
  rw [Sem.wp_bind', Sem.wp_onRaise]
  refine Sem.wp_mono _ Γ _ (fun f p1 s1 h1 => ?_) (fun _ _ _ h' => h'.elim) p s H
  cases f with
  | next => exact h1
  | brk => exact h1
  | cont => exact h1
  | ret v => exact h1
theorem den2_ok (A : Around) (c : Code) (R : Result → Shared → Prop) (s : Shared) (h : wpXT prog w A c (postC prog w A R) (postE R) (den2 c) s) : codeAny (model prog w) A c R s := by
  unfold den2 at h
  split at h
  · split at h
    · split at h
      · exact den1_ok _ _ _ _ h
      · rename_i hg
        exact y_code _ _ _ _ _ _ (comp_ok hg h)
    · exact den1_ok _ _ _ _ h
  · split at h
    · rename_i ht
      split at h
      · exact y_code _ _ _ _ _ _ (forT_ok ht h)
      · exact den1_ok _ _ _ _ h
    · split at h
      · exact y_code _ _ _ _ _ _ (for_ok h)
      · exact den1_ok _ _ _ _ h
  · split at h
    · exact y_code _ _ _ _ _ _ (func_ok h)
    · exact den1_ok _ _ _ _ h
  · exact den1_ok _ _ _ _ h
end
end Mine
namespace Mine
open PySem PySem.W PySem.W.X PySem.Calls PySem.Spec PySem.Builtin PySem.Builtin.Str PySem.Builtin.Re
section
variable {prog : Program} {w : World} {E : Ev}
theorem sub_ok {A : Around} {pa ca : Addr} {C : Array Nat} {z : List Nat} {x : Str} {xt : Tok} {h : Heap} {g : Array GenState} {d : Drawn} {tk : Nat} {ox : OsState} {zt : Tok} {R : Result → Shared → Prop} {F : Nat → List Pc}
    (P : PatAt h pa ca C) (SB : Subs C x.cps z F) (hx : x.cps.size < 100000) (hz : (⟨z⟩ : Array Nat).contains 92 = false) (htot : (flatP (F 0)).length ≤ 500000) (h2 : 2 ≤ (F 0).length)
    (hR : ∀ h' : Heap, h'.objs.size = h.objs.size + 1 → (∀ b o, h.get? b = some o → h'.get? b = some o) → R (.ok (.ret (.str ⟨⟨flatP (F 0)⟩⟩ (tk + tkP (F 0) + 1)))) ⟨h', g, d, tk + tkP (F 0) + 2, ox⟩) :
    codeAny (model prog w) A (.call (.builtin "re.Pattern.sub") ⟨[.ref pa, .str ⟨⟨z⟩⟩ zt, .str x xt], []⟩) R ⟨h, g, d, tk, ox⟩ := by
  obtain ⟨o, f0, f1, t2, f3, f4, t6, ho, hc, hd⟩ := P.pat
  obtain ⟨oc, items, n, hoc, hdc, hC⟩ := P.code
  refine codeAny_call_builtin slot_sub.plain entry_sub (slot_sub.check _ _ _ _ _ _ _ _ ⟨o, ho, hc⟩ (args_sub _ _ _) ?_)
  show wpAny _ A.in1 (reSubstitute "re.Pattern.sub" "sub" false ⟨[.ref pa, .str ⟨⟨z⟩⟩ zt, .str x xt], []⟩) _ _ _
  unfold reSubstitute
  have hn : reNamed "re.Pattern.sub" "sub" ["repl", "string", "count"] 2 [.str ⟨⟨z⟩⟩ zt, .str x xt] [] = pure [some (.str ⟨⟨z⟩⟩ zt), some (.str x xt), none] := by rfl
  show wpAny _ _ (reNamed "re.Pattern.sub" "sub" ["repl", "string", "count"] 2 [.str ⟨⟨z⟩⟩ zt, .str x xt] [] >>= _) _ _ _
  rw [hn]
  refine wpAny_bind (wpAny_pure ?_)
  show wpAny _ _ (pure (0 : Int) >>= _) _ _ _
  refine wpAny_bind (wpAny_pure ?_)
  show wpAny _ _ (specialOf (.str ⟨⟨z⟩⟩ zt) "__call__" >>= _) _ _ _
  refine wpAny_bind (wpAny_specialOf (typeIs_str _ _ _) noCall_str ?_)
  show wpAny _ _ (asStr? (.str ⟨⟨z⟩⟩ zt) >>= _) _ _ _
  refine wpAny_bind (wpAny_pure ?_)
  show wpAny _ _ (pure (!(⟨z⟩ : Array Nat).contains 92) >>= _) _ _ _
  rw [hz]
  refine wpAny_bind (wpAny_pure ?_)
  show wpAny _ _ (pure ((Value.str ⟨⟨z⟩⟩ zt), (0 : Int)) >>= _) _ _ _
  refine wpAny_bind (wpAny_pure ?_)
  show wpAny _ _ (reWholeTarget (.ref pa) (.str x xt) >>= _) _ _ _
  refine wpAny_bind (wpAny_wholeTarget (s := ⟨h, g, d, tk, ox⟩) P ?_)
  show wpAny _ _ (newList [] >>= _) _ _ _
  refine wpAny_bind (wpAny_newList ?_ (by decide))
  refine wpAny_pure ⟨plainId_quiet plain_subloop _, ?_⟩
  have hlt1 : pa < h.objs.size := Heap.lt_size ho
  have hlt2 : ca < h.objs.size := Heap.lt_size hoc
  have hb : ∀ b o, h.get? b = some o → (h.push { cls := .type "list", data := .seq #[] }).get? b = some o := fun b o e => Heap.get?_push_of_some _ e
  refine loop_ok (a := h.objs.size) (z := z) (F := F) SB hx (Nat.ne_of_lt hlt1) (Nat.ne_of_lt hlt2) x.cps.size 0 (by lia) 0 [] _ tk ?_ ?_ (by simp) (by simpa [catS] using htot) (by simpa using h2) ?_
  · exact ⟨⟨o, f0, f1, t2, f3, f4, t6, hb _ _ ho, hc, hd⟩, ⟨oc, items, n, hb _ _ hoc, hdc, hC⟩⟩
  · exact ⟨_, Heap.get?_push_size _ rfl, rfl, _, rfl⟩
  · intro h' hs hk
    have e1 : catS (([] : List (Str × Tok)).map (·.1)) ++ flatP (F 0) = flatP (F 0) := rfl
    rw [e1]
    refine hR h' (hs.trans (Heap.size_push ..)) fun b o e => ?_
    have hne : b ≠ h.objs.size := Nat.ne_of_lt (Heap.lt_size e)
    exact (hk b hne).trans (hb b o e)
theorem natsOf_is : ∀ {xs : List Value} {l : List Nat}, natsOf xs = some l → xs.map (fun v => (reRawOf v).toNat) = l
  | [], l, h => by cases h; rfl
  | v :: xs, l, h => by
    unfold natsOf at h
    split at h
    · rename_i n t
      split at h
      · rename_i r hr
        cases h
        rw [List.map_cons, natsOf_is hr]
        rfl
      · cases h
    · cases h
theorem patAt_is {prog : Program} {w : World} {h₀ h : Heap} {T : GT} {m : Nat} {pa ca : Addr} {l : List Nat} (O : EvH prog w E h₀) (D : RepM E h₀ h T m) (e1 : patOf (E.old pa) = some ca) (e2 : codeOf (E.old ca) = some l) : PatAt h pa ca ⟨l⟩ := by
  refine ⟨?_, ?_⟩
  · unfold patOf at e1
    split at e1
    · rename_i ho
      split at e1
      · rename_i q
        split at e1
        · split at e1
          · cases e1
            exact ⟨_, _, _, _, _, _, _, D.keep _ _ (O.old _ _ ho), by rw [nm_is "re.Pattern" q (by decide +kernel)], rfl⟩
          · cases e1
        · cases e1
      · cases e1
    · cases e1
  · unfold codeOf at e2
    split at e2
    · rename_i xs n sl ho
      refine ⟨_, _, _, D.keep _ _ (O.old _ _ ho), rfl, ?_⟩
      apply Array.toList_inj.mp
      simpa using natsOf_is e2
    · cases e2
theorem leafSub_ok {id : String} {p : Addr} {z x : Str} {zt xt : Tok} {T : GT} {i : Nat} {os : List Orc} {ts : Nat} {o : HOut} (e : leafSub E (nm id) p z x T i os ts = some o) :
    LeafSays prog w E (.call (.builtin id) ⟨[.ref p, .str z zt, .str x xt], []⟩) T i o := by
  unfold leafSub at e
  split at e
  · rename_i q
    have := nm_is "re.Pattern.sub" q (by decide +kernel)
    subst this
    split at e
    · split at e
      · rename_i c hp
        split at e
        · rename_i l hl
          have main : ∀ (C : Array Nat) (zl : List Nat) (F : Nat → List Pc) (os' : List Orc) (ts' : Nat), (⟨l⟩ : Array Nat) = C → (x.cps.size < 100000 → Subs C x.cps zl F) → (⟨zl⟩ : Array Nat).contains 92 = false →
              LeafSays prog w E (.call (.builtin "re.Pattern.sub") ⟨[.ref p, .str z zt, .str x xt], []⟩) T i ⟨some (subSays z x zl (F 0)), [(p, 0)], .str ⟨⟨flatP (F 0)⟩⟩ (E.t₀ + (i + tkP (F 0) + 1)), T, i + tkP (F 0) + 2, os', ts', some none⟩ := by
            intro C zl F os' ts' hC SB hz hA _ A h₀ h m g d ox R _ O D hm hR
            obtain ⟨h1, h2, h3, h4⟩ := (hA : subSays z x zl (F 0))
            subst h1; subst hC
            obtain ⟨hm1, hm2⟩ := hm fun x => nomatch x
            refine sub_ok (patAt_is O D hp hl) (SB h2) h2 hz h4 h3 fun h' hs hk => ?_
            have r := hR h' ⟨?_, fun j o e => ?_, fun b o e => hk b o (D.keep b o e)⟩
            · show R (.ok (.ret (.str _ (E.t₀ + i + tkP (F 0) + 1)))) ⟨h', g, d, E.t₀ + i + tkP (F 0) + 2, ox⟩
              rw [show E.t₀ + i + tkP (F 0) + 1 = E.t₀ + (i + tkP (F 0) + 1) by lia, show E.t₀ + i + tkP (F 0) + 2 = E.t₀ + (i + tkP (F 0) + 2) by lia]
              exact r
            · show h'.objs.size = E.ad (m + 1)
              rw [hs, D.size, O.step m hm2]
            · have z := D.own j o e
              exact ⟨Nat.lt_succ_of_lt z.1, hk _ _ z.2⟩
          split at e
          · rename_i hc
            cases e
            exact main dC [46, 46] (fun p => dotsP (x.cps.toList.drop p) (bolAt x.cps p) []) _ _ (by rw [natsEq_is _ _ hc]; rfl) subs_dots (by decide +kernel)
          · split at e
            · rename_i hc
              cases e
              exact main eC [13, 10] (fun p => endsP (x.cps.toList.drop p) []) _ _ (by rw [natsEq_is _ _ hc]; rfl) subs_ends (by decide +kernel)
            · cases e
        · cases e
      · cases e
    · cases e
  · cases e
theorem leaf2_ok {c : Code} {T : GT} {i : Nat} {os : List Orc} {ts : Nat} {o : HOut} (e : leaf2 E c T i os ts = some o) : LeafSays prog w E c T i o := by
  unfold leaf2 at e
  split at e
  · rename_i q
    cases e
    exact leaf1_ok q
  · split at e
    · split at e
      · split at e
        split at e
        · split at e
          · exact leafLen_ok e
          · exact leafL_ok e
          · exact leafS_ok e
          · exact leafSI_ok e
          · exact leafSS_ok e
          · exact leafSR_ok e
          · exact leafSub_ok e
          · cases e
        · cases e
      · cases e
    · cases e
/-- the hooks used; what is given is what it says -/
noncomputable def hkX (prog : Program) (w : World) (top : Addr → Option Obj) (js : Code → Bool) (lim : Nat) : Hooks := ⟨leaf2, turn1, js, lim, cmp2, GivenOk prog w top lim⟩
theorem hkX_ok (top : Addr → Option Obj) (js : Code → Bool) (lim : Nat) : HooksOk prog w top den2 qt1 (hkX prog w top js lim) where
  den := den2_ok
  qt := qt1_ok
  leaf := fun _ _ _ _ _ _ _ e => leaf2_ok e
  turn := fun _ _ _ _ _ _ _ e => turn1_ok e
  cmp := fun _ _ _ _ _ _ _ _ e => cmp2_ok e
  given := fun _ _ _ _ _ _ _ _ _ _ h => h
end
end Mine
namespace Mine
open PySem PySem.W PySem.W.X
/-- the one row of the world that is asked, made plain -/
noncomputable def parB (b : Bool) (P : Params) : Params := { P with followText := fun r => match Nat.beq (nm r) 10139888712337904147300001983332972444938612 with
  | true => b
  | false => P.followText r }
theorem parB_is (P : Params) : parB (P.followText "special-get-raises") P = P := by
  unfold parB
  have : (fun r => match Nat.beq (nm r) 10139888712337904147300001983332972444938612 with
      | true => P.followText "special-get-raises"
      | false => P.followText r) = P.followText := by
    funext r
    split
    · rename_i q
      rw [nm_is "special-get-raises" q (by decide +kernel)]
    · rfl
  rw [this]
noncomputable def evC (kt : Params → KT) (prog : Program) (P : Params) (ad : Nat → Addr) (args : Nat → Option (Addr × Obj)) (t₀ dep : Nat) : Ev := ⟨ad, fun _ => false, (kt P).get, args, ⟨prog, P⟩, t₀, dep, false⟩
noncomputable abbrev Giv := (Nat → Addr) → Setting → Nat → List (Addr × Obj) → Code → Nat → Value → Nat → Nat → List (Nat × Obj) → Prop
noncomputable def hkG (js : Code → Bool) (lim : Nat) (G : Giv) : Hooks := ⟨leaf2, turn1, js, lim, cmp2, G⟩
noncomputable def runC (H : Hooks) (E : Ev) (n : Nat) (c : Code) (os : List Orc) (ts : Nat) : Out := goX E H (runD den2 qt1 H n E) c .base .nil 0 0 (den2 c) os ts .nil
noncomputable def noJs (_ : Code) : Bool := false
noncomputable def jsG (c : Code) : Bool := match c with
  | .call f _ => match f with
    | .ref f => Nat.beq f 83
    | _ => false
  | _ => false
noncomputable def arg1 (a : Addr) (o : Obj) (k : Nat) : Option (Addr × Obj) := match k with
  | 0 => some (a, o)
  | _ => none
noncomputable def arg2 (a : Addr) (o : Obj) (a' : Addr) (o' : Obj) (k : Nat) : Option (Addr × Obj) := match k with
  | 0 => some (a, o)
  | 1 => some (a', o')
  | _ => none
noncomputable def lst3 (a b c : Int) (u v z : Tok) : Obj := { cls := .type "list", data := .seq ⟨[.int a u, .int b v, .int c z]⟩ }
noncomputable def dct3 (a b c : Int) (q₀ q₁ q₂ : Int) (u₀ v₀ u₁ v₁ u₂ v₂ : Tok) : Obj := { cls := .type "dict", data := .dict ⟨[⟨q₀, .str ⟨#[114]⟩ u₀, .int a v₀⟩, ⟨q₁, .str ⟨#[103]⟩ u₁, .int b v₁⟩, ⟨q₂, .str ⟨#[98]⟩ u₂, .int c v₂⟩]⟩ 3 }
end Mine
namespace Mine
open PySem PySem.W PySem.W.X
noncomputable abbrev fadd := ZFast.zw8559199391930989912
noncomputable abbrev fsub := ZFast.zw9956069268441925795
noncomputable abbrev fmul := ZFast.zw6882322653436715350
noncomputable abbrev ofI := ZFast.zw132783491699828406
/-- facts, the first innermost -/
noncomputable def andL : Prop → List Prop → Prop
  | P, [] => P
  | P, A :: l => andL (P ∧ A) l
theorem andL_of : ∀ {l : List Prop} {P : Prop}, P → (∀ A ∈ l, A) → andL P l
  | [], _, h, _ => h
  | A :: l, _, h, g => andL_of (l := l) ⟨h, g A (.head _)⟩ fun B hB => g B (.tail _ hB)
/-- the paths of greatest: road 0: equal; half or less | more, the first | the second | the third the greatest; road 1: equal; first | second | third -/
noncomputable def p0 (u : Nat → UInt64) (p : Int) (k : Nat) : List Orc := [.flt (u 0), .flt (u 1), .flt (u 2), .flt (u 3)] ++ (match k with
  | 0 => [.bool true]
  | 1 => [.bool false, .bool true, .bool true]
  | 2 => [.bool false, .bool true, .bool false, .bool true]
  | 3 => [.bool false, .bool true, .bool false, .bool false]
  | 4 => [.bool false, .bool false, .bool true]
  | 5 => [.bool false, .bool false, .bool false, .bool true]
  | _ => [.bool false, .bool false, .bool false, .bool false]) ++ [.flt (u 4), .int p]
noncomputable def p1 (u : Nat → UInt64) (p : Int) (v : Value) (k : Nat) : List Orc := [.flt (u 0), .flt (u 1), .flt (u 2), .flt (u 3)] ++ (match k with
  | 0 => [.bool true]
  | 1 => [.bool false, .bool true]
  | 2 => [.bool false, .bool false, .bool true]
  | _ => [.bool false, .bool false, .bool false]) ++ [.int p, .val v]
noncomputable def two : UInt64 := 4611686018427387904
noncomputable def oneF : UInt64 := 4607182418800017408
noncomputable def halfF : UInt64 := 4602678819172646912
noncomputable def sixF : UInt64 := 4618441417868443648
noncomputable def fourF : UInt64 := 4616189618054758400
noncomputable def half (u : Nat → UInt64) : UInt64 := Float64.div (fadd (u 1) (u 3)) two
noncomputable def isEq (x y : UInt64) : Bool := Float64.cmp x y == some .eq
noncomputable def head7 (x₀ x₁ x₂ : Int) (u : Nat → UInt64) : List Prop :=
  [(64 : Int) ≠ 0 ∧ Float64.isInf (qdiv x₀ 64) = false, (64 : Int) ≠ 0 ∧ Float64.isInf (qdiv x₁ 64) = false, (64 : Int) ≠ 0 ∧ Float64.isInf (qdiv x₂ 64) = false,
   qdiv x₀ 64 = qdiv x₀ 64 ∧ u 0 = bif betterF false (qdiv x₀ 64) (qdiv x₁ 64) then qdiv x₁ 64 else qdiv x₀ 64,
   u 0 = u 0 ∧ u 1 = bif betterF false (u 0) (qdiv x₂ 64) then qdiv x₂ 64 else u 0,
   qdiv x₀ 64 = qdiv x₀ 64 ∧ u 2 = bif betterF true (qdiv x₀ 64) (qdiv x₁ 64) then qdiv x₁ 64 else qdiv x₀ 64,
   u 2 = u 2 ∧ u 3 = bif betterF true (u 2) (qdiv x₂ 64) then qdiv x₂ 64 else u 2]
noncomputable def lastA (u : Nat → UInt64) (p : Int) (share : UInt64) : List Prop :=
  [half u = half u ∧ u 4 = bif betterF true (half u) (fsub oneF (half u)) then fsub oneF (half u) else half u,
   frnd (fmul (ofI 64) (fadd (half u) (fmul share (u 4)))) = some p]
noncomputable def range3 (u : Nat → UInt64) : List Prop := [Float64.isZero (fsub (u 1) (u 3)) = false, Float64.isZero (fsub (u 1) (u 3)) = false, Float64.isZero (fsub (u 1) (u 3)) = false]
/-- which is the greatest -/
noncomputable def which (x₀ x₁ : Int) (u : Nat → UInt64) : Nat → List Prop
  | 0 => [isEq (qdiv x₀ 64) (u 1) = true]
  | 1 => [isEq (qdiv x₀ 64) (u 1) = false, isEq (qdiv x₁ 64) (u 1) = true]
  | _ => [isEq (qdiv x₀ 64) (u 1) = false, isEq (qdiv x₁ 64) (u 1) = false]
noncomputable def six : List Prop := [Float64.isZero sixF = false, Float64.isZero oneF = false]
noncomputable def low (u : Nat → UInt64) : Bool := Float64.cmp (half u) halfF == some .lt || Float64.cmp (half u) halfF == some .eq
noncomputable def facts0 (x₀ x₁ x₂ : Int) (u : Nat → UInt64) (p : Int) (k : Nat) : List Prop := head7 x₀ x₁ x₂ u ++ (Float64.isZero two = false) :: (match k with
  | 0 => (isEq (u 3) (u 1) = true) :: lastA u p 0
  | 1 => (isEq (u 3) (u 1) = false) :: (low u = true) :: (Float64.isZero (fadd (u 1) (u 3)) = false) :: (range3 u ++ which x₀ x₁ u 0 ++ six ++ lastA u p (Float64.div (fsub (u 1) (u 3)) (fadd (u 1) (u 3))))
  | 2 => (isEq (u 3) (u 1) = false) :: (low u = true) :: (Float64.isZero (fadd (u 1) (u 3)) = false) :: (range3 u ++ which x₀ x₁ u 1 ++ six ++ lastA u p (Float64.div (fsub (u 1) (u 3)) (fadd (u 1) (u 3))))
  | 3 => (isEq (u 3) (u 1) = false) :: (low u = true) :: (Float64.isZero (fadd (u 1) (u 3)) = false) :: (range3 u ++ which x₀ x₁ u 2 ++ six ++ lastA u p (Float64.div (fsub (u 1) (u 3)) (fadd (u 1) (u 3))))
  | 4 => (isEq (u 3) (u 1) = false) :: (low u = false) :: (Float64.isZero (fsub (fsub two (u 1)) (u 3)) = false) :: (range3 u ++ which x₀ x₁ u 0 ++ six ++ lastA u p (Float64.div (fsub (u 1) (u 3)) (fsub (fsub two (u 1)) (u 3))))
  | 5 => (isEq (u 3) (u 1) = false) :: (low u = false) :: (Float64.isZero (fsub (fsub two (u 1)) (u 3)) = false) :: (range3 u ++ which x₀ x₁ u 1 ++ six ++ lastA u p (Float64.div (fsub (u 1) (u 3)) (fsub (fsub two (u 1)) (u 3))))
  | _ => (isEq (u 3) (u 1) = false) :: (low u = false) :: (Float64.isZero (fsub (fsub two (u 1)) (u 3)) = false) :: (range3 u ++ which x₀ x₁ u 2 ++ six ++ lastA u p (Float64.div (fsub (u 1) (u 3)) (fsub (fsub two (u 1)) (u 3)))))
noncomputable def hueOf (x₀ x₁ x₂ : Int) (u : Nat → UInt64) (k : Nat) : UInt64 :=
  let c (x : Int) : UInt64 := Float64.div (fsub (u 1) (qdiv x 64)) (fsub (u 1) (u 3))
  match k with
  | 1 => fsub (c x₂) (c x₁)
  | 2 => fsub (fadd two (c x₀)) (c x₂)
  | _ => fsub (fadd fourF (c x₁)) (c x₀)
noncomputable def pick (x₀ x₁ x₂ : Int) (v₀ v₁ v₂ : Tok) (k : Nat) : Option Value := (⟨[.int x₀ v₀, .int x₁ v₁, .int x₂ v₂]⟩ : Array Value)[k]?
noncomputable def lastB (x₀ x₁ x₂ : Int) (v₀ v₁ v₂ : Tok) (p : Int) (v : Value) (hue : UInt64) : List Prop :=
  [frnd (fmul hue (ofI 3)) = some p, 0 ≤ p % 3 ∧ p % 3 < 9223372036854775808 ∧ pick x₀ x₁ x₂ v₀ v₁ v₂ (p % 3).toNat = some v]
noncomputable def hue6 (x₀ x₁ x₂ : Int) (u : Nat → UInt64) (k : Nat) : UInt64 := (Float64.divmod (Float64.div (hueOf x₀ x₁ x₂ u k) sixF) oneF).2
noncomputable def facts1 (x₀ x₁ x₂ : Int) (v₀ v₁ v₂ : Tok) (u : Nat → UInt64) (p : Int) (v : Value) (k : Nat) : List Prop := head7 x₀ x₁ x₂ u ++ (match k with
  | 0 => (isEq (u 3) (u 1) = true) :: lastB x₀ x₁ x₂ v₀ v₁ v₂ p v 0
  | k + 1 => (isEq (u 3) (u 1) = false) :: (Float64.isZero (u 1) = false) :: (range3 u ++ which x₀ x₁ u k ++ six ++ lastB x₀ x₁ x₂ v₀ v₁ v₂ p v (hue6 x₀ x₁ x₂ u (k + 1))))
noncomputable def tg0 : Nat → Nat
  | 0 => 51815184309215848762704580635908665370325081741950188920070152062155774241894190551814932109413366869072061556622340802766701586122530638073504423383541177171634987113548554039474684124953276460659381514242404541797899815410017661773605218145845863456559313909486108902174755734010887592087388215446052923235929852622418370501994029753017726031249632894958380245910475943455557116973320748766320652361494758566215941384517690316832310998182182752897918056300351788795566503262352570700461387734249831846721420564208519263534655567065968310019843604989412306026097079273695172878139438830174772872688891823345951924031611256878326656031555980937715128562186351063001170192707704964727156391707180760879963579403137778475300826755063767677420961792
  | 1 => 498442923149180875473602921511250275417374918604456405959923991035204270203230952318003934489834828554803652372600174832383538602452915510543271543265597526817388061731478217938937821570458397706641442207902084309247751768710762854226805349212008841937062914138651552944727986164110951128108657028527347257548008835575857340096354330386681267097528710308387753013299842948245998714241836494745500503025641923746597332455182367774051680090378519613489123440563049908670152332388733617977854689311338767910779299360739604284985884266309069229772212867333793830464249817997388027362596284780829926944973918626233205938878819229053633385384710669878997133951617502564590616306362348048222432298314447222843427156455234813419895132923127188155175496546745510272870401396291225843166790105443677232353438365237256206472752736846106797689431652471705556922149109760
  | 2 => 8362484585345207770889738512425292300736789162409383685373332141179685645321969584924852697785808722986908713444025614800662421977690693350134744028020275076481112067490344061656634643057039757338228110473490175306460328938042509930139626333685302135087962916093611052489137485120300875041722610437521466846890574604364642979981997413432715141248932239045247944058782337908799941564557567109028126967369848093352192711624404903536704232039179945315743434512656694104380922493717821343388430252387984583777564619730308713412361423418994654587230154059650047592496563040866530447438673520898922768852947080736978137261686897959062668912187565285500400152414807168534231515953313679852810185047920387208178628923483419523374075131117275169262337700819152272708728037097473095134980566420048282674194650209549733683519410163617833954890079513552965228263982369127530496
  | 3 => 8362484585345207770889738512425292300736789162409383685373332141179685645321969584924852697785808722986908713444025614800662421977690693350134744028020275076481112067490344061656634643057039757338228110473490175306460328938042509930139626333685302135087962916093611052489137485120300875041722610437521466846890574604364642979981997413432715141248932239045247944058782337908799941564557567109028126967369848093352192711624404903536704232039179945315743434512656694104380922493717821343388430252387984583777564619730308713412361423418994654587230154059650047592496563040866530447438673520898922768852947080736978137261686897959062668912187565285500400152414807168534231515953313679852810185047920387208178628923483419523374075131117275169262337700819152272708728037097473095134980566420048282674194650209549733683519410163617833954890079513552965228263982369127530496
  | 4 => 2041622213219044865939877566510081128109567666603853438811848667280196690752433980694544115670363457760475760118170316113442974115647141931185240241215887469844021500852134780677889317152597597006403347283566937330678791244639284650912994710372388216574209696311916760861605831328198455820733059188848014366916644190518711665034667337263846470031477597423156236342476156716015610733534562282477570060393029319666062673736426978402515681650190416336851424447710334478107599569848983548032137550694509110903326134181227801520994075079558080677274908724323809326830887138911654319941115624916130106964538368051664922741814143422656790967667586297389364052886373686557172584602808040036713620729952229237003513693218516027622612404584263680308767707994388025950404128450474079569449396532174805949753080276566694040747161962125446816776523169539050362271207100776448
  | 5 => 34252736861573971029564368946893997263817888409228835575289168450271992403238787419852196650130672529354378090266728918223513280420621079962151911538771046713266635028440449276545575497961634846057382340499415758055261507330222120673851909462774997545320296104319430870995507139052752384170895812352087928204863793579477577646006261405420401218555626451129335578864772456074444560648427794878579208058346897790370581346813562484886340534432481056013285107763816654215626310728923812607249659108625928130418422223189468489775414760016095229945427823156251414663455719464709193107061766605523230115072397440623859808837580750206820552317428888541221032589282842382864608341954193044624972949150819942060953076307424146745614443591778299224433252847724121847933365912678214128938098915894742026111005293291712441722588123064945399883023139128124066589913672902030712111104
  | _ => 34252736861573971029564368946893997263817888409228835575289168450271992403238787419852196650130672529354378090266728918223513280420621079962151911538771046713266635028440449276545575497961634846057382340499415758055261507330222120673851909462774997545320296104319430870995507139052752384170895812352087928204863793579477577646006261405420401218555626451129335578864772456074444560648427794878579208058346897790370581346813562484886340534432481056013285107763816654215626310728923812607249659108625928130418422223189468489775414760016095229945427823156251414663455719464709193107061766605523230115072397440623859808837580750206820552317428888541221032589282842382864608341954193044624972949150819942060953076307424146745614443591778299224433252847724121847933365912678214128938098915894742026111005293291712441722588123064945399883023139128124066589913672902030712111104
noncomputable def in0 : Nat → Nat
  | 0 => 36
  | 1 => 53
  | 2 => 55
  | 3 => 55
  | 4 => 56
  | 5 => 58
  | _ => 58
noncomputable def tg1 : Nat → Nat
  | 0 => 4236889016511415555006200700756324375367555110975544424331458316831798349275494503139503468341408491180752150751603604738954733099363426969629288902077855146590723400720168372885158307797027695393700444033676045285284548376269334870900850692853811860619227350666622474902557438706238988200528174737730617806513405388404858225603043803716409717219699924847826863592908492517349942319269820821817191271308909252277207698759738812121266636186429917378521040760941898661138387639682277855651486352144704822351132602940267552461225762716732904130867307421649136708866901304207577550675954969149868525897232596287136708400513024
  | 1 => 9950514273763806023885741171969672824915569025326411758143583586534663093014317606178835226066226036704238953071517089913704965823840958634302618317490170162666588244733169769605550880970165362977079006046193174560974388137284969693626982616929660367472068349918513019934799713755321789113748068392709655357981818462750260762415682363744987639040836035849873116391486525158878172510062218106805790043245083121507524926367336106884749573264514750125140014996743764824355238531621183584668102862208521870711893746844987088171441460172652845865765674648677082871472683769525232117210183588510495350609213680651459449387853672558647126155974894966776023786572358262839529162753457222019831141178544070427762089609316692231881347825664
  | 2 => 166941927282018506644832238962228346432938683300810680571314660845346734198729297571465253216121904522610945031294705665173649571899197712654760036878089162695812486964949251589342561929026753850384857533502288867335172480247067590103433710792474168791718264673346475334258440714411204805467799913007262713226418292422349078764272252048108068041578467235505177325206308756505297969472602525069560437292304226344846379423035304854203861160132952762112063547173942865536642797110109667550483684179418884851678292191147102666836045995450621628899266079358960137606931176171248970997911935614823607559955226769382666214498435989659526065670905697035173563893256711138956272928227183955646848778461887976536763157749659985191176250412771573760
  | _ => 166941927282018506644832238962228346432938683300810680571314660845346734198729297571465253216121904522610945031294705665173649571899197712654760036878089162695812486964949251589342561929026753850384857533502288867335172480247067590103433710792474168791718264673346475334258440714411204805467799913007262713226418292422349078764272252048108068041578467235505177325206308756505297969472602525069560437292304226344846379423035304854203861160132952762112063547173942865536642797110109667550483684179418884851678292191147102666836045995450621628899266079358960137606931176171248970997911935614823607559955226769382666214498435989659526065670905697035173563893256711138956272928227183955646848778461887976536763157749659985191176250412771573760
noncomputable def in1 : Nat → Nat
  | 0 => 30
  | 1 => 46
  | 2 => 48
  | _ => 48
noncomputable def evG (kt : Params → KT) (b : Bool) (P : Params) (prog : Program) (ad : Nat → Addr) (a : Addr) (x₀ x₁ x₂ : Int) (v₀ v₁ v₂ : Tok) (t₀ : Nat) : Ev := evC kt prog (parB b P) ad (arg1 a (lst3 x₀ x₁ x₂ v₀ v₁ v₂)) t₀ 700
noncomputable def Gr0w (kt : Params → KT) (k : Nat) (b : Bool) : Prop := ∀ (P : Params) (prog : Program) (G : Giv) (ad : Nat → Addr) (a : Addr) (x₀ x₁ x₂ : Int) (v₀ v₁ v₂ t₀ tr : Nat) (u : Nat → UInt64) (p : Int),
  endOf [] (runC (hkG noJs 700 G) (evG kt b P prog ad a x₀ x₁ x₂ v₀ v₁ v₂ t₀) 10000 (.call (.ref 83) ⟨[.ref a, .int 0 tr], []⟩) (p0 u p k) (tg0 k)) =
    some (andL True (facts0 x₀ x₁ x₂ u p k), exps (evG kt b P prog ad a x₀ x₁ x₂ v₀ v₁ v₂ t₀) 400 (tg0 k) [], .ok (.ret (.int p (t₀ + (in0 k - 1)))), 21, in0 k, [])
noncomputable def Gr0 (kt : Params → KT) (k : Nat) : Prop := ∀ b, Gr0w kt k b
noncomputable def Gr1w (kt : Params → KT) (k : Nat) (b : Bool) : Prop := ∀ (P : Params) (prog : Program) (G : Giv) (ad : Nat → Addr) (a : Addr) (x₀ x₁ x₂ : Int) (v₀ v₁ v₂ t₀ tr : Nat) (u : Nat → UInt64) (p : Int) (v : Value),
  endOf [] (runC (hkG noJs 700 G) (evG kt b P prog ad a x₀ x₁ x₂ v₀ v₁ v₂ t₀) 10000 (.call (.ref 83) ⟨[.ref a, .int 1 tr], []⟩) (p1 u p v k) (tg1 k)) =
    some (andL True (facts1 x₀ x₁ x₂ v₀ v₁ v₂ u p v k), exps (evG kt b P prog ad a x₀ x₁ x₂ v₀ v₁ v₂ t₀) 400 (tg1 k) [], .ok (.ret v), 16, in1 k, [])
noncomputable def Gr1 (kt : Params → KT) (k : Nat) : Prop := ∀ b, Gr1w kt k b
end Mine
namespace Mine
open PySem PySem.W PySem.W.X
noncomputable def tgE0 : Nat := 6933141887260285981278910240897881335946877705430872969495280427112198579247083638389123288862063693871870003210134298820363381683529534393288356396703358788520781304163841663670392813196156488380409704202379574335209061931555134926716409800010158796143979806139906345824745017604734058887505771822126619108587027935448402728013311772001062300079499155648672690984639201249731245558333731405801283137015166844826306322290051473317577884099806261275436966269169292563835437230470553501054905733535524083963970497924227681118681783702466822002247957203105511853422030096243748105618702165317102203887407529396046250491957850783066820839887553309171113151293879019476077838660590711010397203543785883518865189678099485019071651393460842882775897896745031878280500664579628565944992998012681181360487353057636707030493339231270364164955061304467728939939604766274574610513823264097306314540658125636617381356032396910703520297661919881526275053671143237657580485846077729780143273466702850293281630564875911373670420921001216630848739149178109388290805150930882179784822583455157276260108381667573401760019587725172304630287812794030702319435681831366505263275836233745258788431650877177286244427345952989695580941163286747398661575817274140543993008456718894714970888065236576985876169212172255913031492096752738022750683716820243519186471615971212953821749331858662302962075690531972538337612525985498004069988803839452080935886495888071092455936623389342833885596863399321923335979275081394742632349384972075325912109813281263743906690127677881770941564627524489513233155805469644340959966344496830926923407395368650474547361031073156834562938024884618936553795205703540353491143456515820488387765588054864982020594817174724859533980320025887191370151190461705441280703274287416501112194131249763663454319759387771383221702739801111419118481515622180950185708001300153527613764696593655297669754936917281714156419788949230837108639564835392617801149090569594901677616754843004999263571741381854567250612279767989308631341047433802315035289298665792550945141995842156133249273812952063594426753736798422430874462219347943666569102373187500779082910072943918659533022641490253598038154108105417384075273570328889170491001955924135833703050414407741118044631015672714977017590624139100162050414247997505934452839029212994146523998442005203806931993391574412188094587761570139922690180050327044870546481089592543535338424874303054022866038640017455975259610972120123532893412036343802175928610904181623169090916643179505733274470965641385695297335864036463628230507668485990406581389984452692829296709225304996560066994796192172735969063142661714205755339125840680142046907681829460851709529499182856385824544248552029231636750398629939200054180953865571828614594037698937416189069900070273529743218621025763315248464888321591873389698811902457216154139611033152437340001984876403837658194074707218505944388979034964858649802099659672858909267219199282790949355955092649312688482513395197697324789519447388688992872511259264940889387044345273171528093826574236613536838353142437384802263230846336277899836673613033847737275789895870285361841476662863617952704020150101958715501206892730047940298194102258080928526462188775027878977786660092531649343591112401862940454135960692451502092074430673488296410691756696272953532621514222575617402403730514203956838351059650258795812124648597216680096770960826284059541115502944942953653086458102162357688960678452819739034260263804787624560408274979967372415018550670726202475420059004735466102285138223813674487742333797387093308960137665762591146838105078620886785624805476443444826808633904409614058194387926376276786508525993557045753280040508973068052882784181637829846524502039602788178683421726298524440129508784918834403805433568702257230263185820654382087679160785506543322661101026858180915611154496489550633010211199897640746208310531335267845267199997105897173502200709511503630653019034952319726122493291633759051585531520271556081662470867429017697812160206041072367906087937551634307553415423447177950479588337502293832214635056638815749110112645837770517528400095485006734000637606065408535328130109473340474668894856970176585030916786695172138359879998994575912332658012309476421819924297173452227966239321179094690717336514206846313185990193452633852688284806820905640108196997079219811512243141027897505551826428002669758152175677656319023405092262176272515317417957855227581091030333770300016069406737050057710988091682502228917700652172675092861416929582607481533502577512587017787698083752526120123332609934526764518965806235435753192480371136353590336733897141822350806017774102204775003413655282446159584025278399401992382888742484643937836603117034685527962651927607417586182368872110605564868066309184279150502331584104890368
noncomputable def tgE1 : Nat := 6218384991666584983521821137644767972232648218623726253269132969293686122294580317406695425785896976306014492728915627867667589102086384144143234492359922848704154787684511356390096624726107313708531532664944327787175406696610846601127676565491824427724560853710150095388353865749478786059758312938094316579139653406076171180227665521132842145055337067793318465818356195453114963547709012180688264429936407176390379592233925103333520750159840840113543077439684271772688825881469358340141028797936042023456393072358355037746415487076406449476352730079351645675962685295331226003652763901146791861037150629169215847563193558988738622580756388355037929611556313125423469598854923373261852821990654462088094685040051624967671934804841089467745933460969464434058613886292371245536380327240382110648158831042863544969449209022833096450569776360375636078355759997869072720895946774437264297786330691931733097189787328563440049637411792052891584985562896339157987114245225054189113518534021144829881656177434412370984623505776115993453424243142561105803264250435949431903839001924279792640704515896172611282326536790538913929178555544571205004924680857341285640094999934472747217923356799842796471146116994689422747942663656576247583546274199673925004361498405803624899038614908042916658277169129456305763745978642342416146955287327984556321421096794705964063567197504484384051449052553820889334268317647331173499087962821894178388600574151969322508720278943152138048783308931662445414867632202884081179219887824006625677420888750568176047412656092379952054195084648164156585340109132554509235250102175168109303709165193463500770416299630079538201142759419422025318755047469510452990616804567834923818974079084688577129478167737942260533550793442379310659960079649834394800834832489617159122891378599378833382611795723587102463103960062041574969937752735442907836984992000960919264162142271829343984990827761872192982009336317176850490334027545180106796539768217998621106964050006426717400010266377244435742268157515317771328696560561111900833478872018006683878324494939417372800903364409508432985259105958132604664609055888791106650767728118088211583697771061426774307877612407588921092637332089685729282989587058942423597525500207395932856637479952699793890914137442221922808729439720431446881091616306668301770515654970307765500200839921309176606621092393132048035471521925623014146528113474130547235033407053039115072784868136418329860998741739320726296434346919157679325949992028983069075212651224763577094433895462335808699794084986891386239572659260400606538002820492676849021204860841584475484109543149987500815074933348481138800223208790156867949036158110687259363382333406635883447599290670405462603388676135471648575731587127632793886561404591570257480666266852941988976753592841832894170957095671168097538517575800333380236838981861434330290843055915381894331571661867641990204241833666234093912143557952859917605494897904622461266856854665271602683319630739106375044611682046740409833353970937863085583764978241024426025992572342539860900998847563674621020553014482562114394884510005608139772822593996509667493513127390975060734063552981543987173682668473169325824042809946638839191156427351568675848336320868054633274716614469209778156796320929723620538332955228036746081186895568683541201450075859997323520230302840211450877097624056529984501339717762278413817103705883734913260734329784289259197179104883868359025478106305684955952016100076174344223627446039836263417755773309285728610841924371793875411894621083322310486352121089903151800764378743218646567956532769783103122076961574466107225824652286379604294578775137028571168764000298762866283798508070636423281153356787519101267129501712998411533862704569200636173656304111235983320680626352314179701939986630935713830157431486082608070818589421548472938366452002584594335550198267937269436846909995040682688141367579546625038843432691852406532032497359380565334892161329993248738923107803760565692089022728746699971746176527735088671658555169745464334946292868031924915054883594038142611250814090042710001876474207463138072833482613897604926551062937397183036411007736713179011833133714975061949566722795897228261702729031903197931978903574704973592374750696601483063232862556932723746168616407471520722392888079370388430920626918099716329315019569884252429365055126129318287402476619236450303326185972117958538029624316367973685008395333210780134481337194364423279174828621353141764632341034932362618298860662430490671413542574538282479318870403641405615368423675292144616186574993189033552960263567974924460905587200815747328646667846709275485150606639559060209754984578250468917755821435177970836430308357053923820447142201642424051130793181092531756950123700543095562741745976100609539714629025933151592661014729487024128
noncomputable def tgPt : Nat := 1702273332074145671714872603021438066225574612626236415749138716592296725918053233023156944769907162769168522987713692257524875046367359370961059358540552401983058583510066076381912817400249611192621522987854004174503467417488993804106394487241484374452961085758941145272987928371754750391642484232026542769456049486394598198770571755624389807377512359412134652904006512290336979500072194110632024568054253122131107604260691162871809900535439592940669113550160916781334016816975156208133607315066156706537856074884674592168400700055013833049959033602520515672337661655869236162296697531332075674076239397017094758945530173545807786770176125691638064361160595914348986291231053511918468155422054586105640149146713693762577703996845438272434476271698193354152228092596238037082461065716487187653291760664579523671755151907026494306711183303667292538379017713482020854330886329930412684576003996296314627240340653880152389607468852540087861125474911430517349450128340375452393531718988848006286777322034947258246243656972439656493489695885940544780116093464273449057387503996730786249298124372662685251626383246162757031587017631901722308491137414789186830923902768505666654828663454670448323610785097217736507117120496243476401474774034510595305387970751266163947205727257459629151681357884203972138993128989228411355896917752340678311550053117411851695036165544459848897448875133352548457572200917034610247747489456238801263061734289338986517475299957321485702036344209332568666116445147482669050669513838067687781600195707826262255500435224577115950933581697337240482554863702540696129769968554141898854390879150191264282976192657141413636096853227480063872274468293140674319130760043674089347560109867693132481722600161884378604085372837587732703003550365500195073673509552467677345811043741980232207248006656135151597139522426525094167497160871639169588898806658814125379588640443731667710472065674906029521640013024086320803327904355445768517902076212403849757654574093314475982324480708403385078511542467164056112211890148441741217575926800887447464899831856063570410399087997273055541209324652560980349439623832387894085901977894300532024755769923564921872208547863645779328494447033667023362130414285540949698801907893885219645365368772440849066737628059543807186609239236796720630826877686517322685546805922097201235717888586743618314737648926351627147970399175102174475124208272588359048567042302999826114125056527570204235362216153847443466777701483165751066761733049492790269281195690412536670007825327532033349618708735788184541953861428041814529437682047360131028143570295855765916369908923794681912237061055248365365657825121326868452935951725470339892235579385508143700706404859285898526495608682980047511978069854623003231137251670565091387441972088599662003646199962226339349363863998215046012527438438918594050759006307059675465302643786207479515098310411262591788474413656909289310465330662290340997227758416427890845507266520330232815362642858165410798285844884231160150095749771944322626728014676985475844973969460177083061361771487244683828815131946341718929723538290490082931149069310162605093985706693158078462176195323283865867567313469324973109952755235570964652978444492172027484281296119699222319183158613547823280576321740122432735502335827613384623280043348645021620183572991582410136250877388322380364966108362274092573912636343080302794061959519274637864418204493307058586651349947343692017620016450163283087675101352374805667514589809292123971837689736083507025674434801760304175739154593010520567679244881476609305266207773215440823988567271055809804056608553708857896423999465216839838716499515592381055386580942296245839752333521765996763930654340906186854127153089540081068745555818554248709501186811166529212761826534038249586068254007200739413804439200484482282285788396572448756512362459564795766151273588654677278901295103183433821413056474098873763904006019972390391980600785523857701908264859616448697004840367473229584529573512107148229711669833221732378783073151785934308858326557013690444293974590476266666323979153098536150150761417735854158244279010960469553191074959117837444748956327983419555741066537648720258933407983860153566590840296202698557518750187240432911883485751467670981475529578433340477948647277350337424708305730738730044341110723944130104062952590489502988208999091183586130469547064303491157306394557721701670435502390262472098596938795480511381484146575820253837434730674024987775447331100595953941734265579989254147139437290451549401432983164137656061117014715420253377140965773687118322942600050361064097136221334147623705934664262923803179781322345177461362559244416791408992536758903677658283735582955760297156144949715164699389947390035946892130923596592969400036756582456918932902647446707249701118614332739370399373557117752034567094575916493172701665630238781011808978222109392547473045629096937358229995486490880164548741688644319725731863505634872371328210400367286558273736366532909354692927947988809502788191244450636574408889784033755913931097928251038667916533922056978339120289660563157857275098533767726808373824182409539287996113172742383937890382804098403500961506114171715257373795011576427638509767768891427223281855122866244663716670138509284805352743942861074577277674172111941065223861539164123927738541411921539625829443298845656860327936
noncomputable def tgPf : Nat := 10685342886865087296867892308997732190562698493901909376123735168262060285473789783984261390984586594917580240045657352276724779031668933377707521201153067960248978646938479689139602091916177440843523033598645314578999992634751568710409846459222211236320631430853390479511759785323644889088265125007303357623105403833632323738186504728239684466782750670721499330709604077919024639751504756377438351226206735574624500957911560321985977599596739577790034713351072975042851942965050666868789775110770656611880167781799566173080313960652953465205547398944282906116430065793801355406053432166909746993374224536884420001691592710606717095952546093546290736258232839859296808517590050797670403595599409936860999570398755697586143686871546195670888956050323452909898718727860570531104259137040692525497014176333488251689607911418488206786187561959923766093982479104926514600164383036548679185133000368163698068233712838335227213682145306335016133540967918975663893598625227375720771651704831516495483184813807989269214730044611630520836350246821531832501119302010605248620114965393153753754463099205351128306656424767347186497496237246943140501060652006402879265246765059256631812744801847598716710097968519387807291311287546116232148207095947713000795861660108610613326702907871591550025189746203196291344176749751862429163424411399803685848221573400788882829458525779354403213646048633346543405022073412394247985481950788049290339110833069538864161592145395259895114068981070372189847351918268005110943300189128664478707194169616370444688801556031373854334355437452206859577213488846948959787395790485269530969729645192022633902700180836178087434808893429912698887905318174993062127108469099273079563583441468367010630781141698327975469659542588279665630181534806941522512009769776647176449819635570689131849632760465784854364338925563403452279270536361495183155830789540747300011799351791306757848557906795275928590641537440637206926105665188289308111054659200678540547338192391374662739056568787453404444917785325065112314104519589586859387661299467555010781126913516182609152219331447488042245137675963265579081518618712512294748096959838432306170043815457828143243237670177102240354428989019667621571318273511247553519712203428318133257937205543318366291592145244528998046892855403398089729062517621926160358120209105323287811249117912167641932120662495506923294121995431598719964396404102229593438417898319361632676623012335596370872384870616666377066296223547664590108152258036450817411172069411608018133501913736387477475758449770047684805165090998136656695939936369839646870719777449896644530088388740083491148471873424135962571825868067899732229332426297736292465909922427096265421668794479682947663785704128369889912361414825950896439415425580899752497369111511687987696861982085517831488876261520671994883635285426851313965158523867054669542231837176874192171302547687773685631741585068895676818057117420039994542765714485611758221814603222266039650585938412286895512100774845504377036427516436848942212950085955317608630407506029008514467468413863361266645045741022843147185898939447119132168571882266581940405777783469425608370022993466659698834864376627306115740995360394188756412784394771059935734828302493792746409294979156155651853682523500091279692885671643203488690963611715412041952462277557161900931488339415230147942964187635516497773181440687673196518914906383608951514336611089689200800923939957548289511488293490606122571502337869162904208312238837259703455303257857985116793951483272712434872876736721596743407626671562656435893403614577028129284850150765894289184573970676970157813514622490733435264074116601611209414887209636015566899690434338039256231377202664456939626848811573395794965654047431165130259025694961096619410347490034228972054624951464708024428110669635191511147650700220331678450964759360462282979734325637468422742491027301403343636834116981235669668673516359459886029372917584378018375629822354799789898598284138851702113136340653149171811210297648052009692002878088898837958315448057902771547062940528086176855197075440433279056283555583908292600320372153513976729056217451065176359427518208262267512593655920010295840140676586479938940891662036586330598541911913624535482690533585650853666987990197951993475854354223574585724141406869873719942051345931446289671450644097903456119707276264361594698446660503646889459549140917723264949333683565929348234051935225706427191689289300253621554342814143836498060177356767039189180452013587387218403548897440091841612476920007601220651349066649717983153247168456719033158791407044576235031752902463682546515213326184447979311701801754141846723851193651989581800563591882834406201716343531525517812736490098849679349687692706671310588142822590267995574384542347152191652036053591361216796100012477152190582396551549999300508496930229634146543491549812499089928988285492743270084680293700721723744730979678880386430549971053488648290678637807863237377878299302136208644266204636999509864795687025139659518323901180960656721721193252848929877992033974734317638139184560619047863730939335997235594673540546328186714694187320758924582173507297803281377300788561192678272529924660308935808816410328053910373931918894029905232289230229361579486402618796613461148531918939380554876097506724366653045948986073773110527972963782731483877542440771565520211817214542501765392531054937230875705568820662338712502272
/-- six ints, six hashes, twelve tokens: two tables -/
structure Two where
  x₀ : Int
  x₁ : Int
  x₂ : Int
  y₀ : Int
  y₁ : Int
  y₂ : Int
structure Bare where
  q : Nat → Int
  v : Nat → Nat
noncomputable def Two.one (x : Two) (z : Bare) : Obj := dct3 x.x₀ x.x₁ x.x₂ (z.q 0) (z.q 1) (z.q 2) (z.v 0) (z.v 1) (z.v 2) (z.v 3) (z.v 4) (z.v 5)
noncomputable def Two.other (x : Two) (z : Bare) : Obj := dct3 x.y₀ x.y₁ x.y₂ (z.q 3) (z.q 4) (z.q 5) (z.v 6) (z.v 7) (z.v 8) (z.v 9) (z.v 10) (z.v 11)
noncomputable def Two.X (x : Two) : Int := 0 + x.x₀ + x.x₁ + x.x₂
noncomputable def Two.Y (x : Two) : Int := 0 + x.y₀ + x.y₁ + x.y₂
noncomputable def lst0 (a b c : Int) : Obj := lst3 a b c 0 0 0
noncomputable def dct0 (a b c : Int) : Obj := dct3 a b c 0 0 0 0 0 0 0 0 0
noncomputable def Two.l₀ (x : Two) (t : Nat) : Obj := lst3 (x.X + x.y₁) (x.x₂ + x.x₀ + x.y₁ + x.y₂) (x.x₀ + x.Y) (t + 96) (t + 99) (t + 100)
noncomputable def Two.l₁ (x : Two) (t ι : Nat) : Obj := lst3 (x.X + x.y₂) (x.x₀ + x.x₁ + x.y₂ + x.y₀) (x.x₁ + x.Y) (t + (ι + 12)) (t + (ι + 15)) (t + (ι + 16))
noncomputable def Two.l₂ (x : Two) (t ι : Nat) : Obj := lst3 (x.X + x.y₀) (x.x₁ + x.x₂ + x.y₀ + x.y₁) (x.x₂ + x.Y) (t + (ι + 12)) (t + (ι + 15)) (t + (ι + 16))
noncomputable def evE (kt : Params → KT) (b : Bool) (P : Params) (prog : Program) (ad : Nat → Addr) (a a' : Addr) (x : Two) (z : Bare) (t₀ : Nat) : Ev := evC kt prog (parB b P) ad (arg2 (a + 2) (x.one z) (a' + 2) (x.other z)) t₀ 600
/-- what is asserted of a call that is given: of one list -/
noncomputable def factG (G : Giv) (b : Bool) (P : Params) (prog : Program) (ad : Nat → Addr) (t₀ : Nat) (m j : Nat) (l : Obj) (rd : Int) (tr : Nat) (i : Nat) (v : Value) (ι mm : Nat) : Prop :=
  ((2 * j + 1 ≠ 0 ∧ some l = some l) ∧ True) ∧ G (fun n => ad (m + n)) ⟨prog, parB b P⟩ t₀ [(ad j, l)] (.call (.ref 83) ⟨[.ref (ad j), .int rd tr], []⟩) i v ι mm []
noncomputable def osE (x : Two) (t₀ : Nat) (p : Nat → Int) (τ ι : Nat → Nat) (mm : Nat) : List Orc :=
  [.given [(2 * 64 + 1, (x.l₀ t₀))] (.int (p 0) (τ 0)) (ι 0) mm [], .given [(2 * (65 + mm) + 1, (x.l₁ t₀ (ι 0)))] (.int (p 1) (τ 1)) (ι 1) mm [], .given [(2 * (66 + 2 * mm) + 1, (x.l₂ t₀ (ι 1)))] (.int (p 2) (τ 2)) (ι 2) mm [], .int (p 3)]
noncomputable def threeO (ad : Nat → Addr) (a b : Nat) (n : Int) : Obj := { cls := .type "list", data := .seq ⟨[.ref (ad a), .ref (ad b), .int n 0]⟩ }
noncomputable def ExRw (kt : Params → KT) (mm tg : Nat) (b : Bool) : Prop := ∀ (P : Params) (prog : Program) (G : Giv) (ad : Nat → Addr) (a a' : Addr) (x : Two) (z : Bare) (t₀ tr : Nat) (rd : Int) (p : Nat → Int) (τ ι : Nat → Nat),
  endOf [3 * mm + 85, 3 * mm + 71, 3 * mm + 76] (runC (hkG jsG 700 G) (evE kt b P prog ad a a' x z t₀) 10000 (.call (.ref 88) ⟨[.ref (a + 2), .ref (a' + 2), .int rd tr], []⟩) (osE x t₀ p τ ι mm) tg) =
    some (andL True [rawInt (ad 11) = rawInt (ad 11), rawInt (ad 15) = rawInt (ad 15), rawInt (ad 19) = rawInt (ad 19), rawInt (ad 27) = rawInt (ad 27), rawInt (ad 31) = rawInt (ad 31), rawInt (ad 35) = rawInt (ad 35), factG G b P prog ad t₀ 65 64 (x.l₀ t₀) rd tr 101 (.int (p 0) (τ 0)) (ι 0) mm, factG G b P prog ad t₀ (66 + mm) (65 + mm) (x.l₁ t₀ (ι 0)) rd tr (ι 0 + 17) (.int (p 1) (τ 1)) (ι 1) mm,
      factG G b P prog ad t₀ (67 + 2 * mm) (66 + 2 * mm) (x.l₂ t₀ (ι 1)) rd tr (ι 1 + 17) (.int (p 2) (τ 2)) (ι 2) mm, x.X = x.X ∧ p 3 = bif better false x.X x.Y then x.Y else x.X],
      exps (evE kt b P prog ad a a' x z t₀) 2000 tg [], .ok (.ret (.ref (ad (3 * mm + 85)))), 3 * mm + 86, ι 2 + 52,
      [some (threeO ad (3 * mm + 71) (3 * mm + 76) (p 2 - p 3)), some (dct0 (x.y₀ + p 0 - p 2) (x.y₁ + p 1 - p 0) (x.y₂ + p 2 - p 1)),
       some (dct0 (x.x₀ + x.y₀ - (x.y₀ + p 0 - p 2)) (x.x₁ + x.y₁ - (x.y₁ + p 1 - p 0)) (x.x₂ + x.y₂ - (x.y₂ + p 2 - p 1)))])
noncomputable def ExR (kt : Params → KT) (mm tg : Nat) : Prop := ∀ b, ExRw kt mm tg b
noncomputable def inR (y : Int) : Prop := -9223372036854775808 ≤ y ∧ y < 9223372036854775808
noncomputable def fit3 (a b c : Int) : List Prop := [inR a ∧ inR (0 + a), inR b ∧ inR (0 + a + b), inR c ∧ inR (0 + a + b + c)]
noncomputable def mnF (p x y : Int) : Prop := x = x ∧ p = bif better true x y then y else x
noncomputable def factsT (x : Two) (p : Nat → Int) : List Prop := fit3 x.x₀ x.x₁ x.x₂ ++ fit3 x.y₀ x.y₁ x.y₂ ++ [decide (x.Y ≤ x.X) = true,
  mnF (p 0) x.x₂ x.y₀, mnF (p 1) x.x₁ (x.y₀ - p 0), mnF (p 2) x.x₀ (x.y₀ - p 0 - p 1),
  mnF (p 3) (x.x₀ - p 2) x.y₁, mnF (p 4) (x.x₂ - p 0) (x.y₁ - p 3), mnF (p 5) (x.x₁ - p 1) (x.y₁ - p 3 - p 4),
  mnF (p 6) (x.x₁ - p 1 - p 5) x.y₂, mnF (p 7) (x.x₀ - p 2 - p 3) (x.y₂ - p 6), mnF (p 8) (x.x₂ - p 0 - p 4) (x.y₂ - p 6 - p 7)]
noncomputable def factsF (x : Two) (p : Nat → Int) : List Prop := fit3 x.x₀ x.x₁ x.x₂ ++ fit3 x.y₀ x.y₁ x.y₂ ++ [decide (x.Y ≤ x.X) = false,
  mnF (p 0) x.x₀ x.y₁, mnF (p 1) (x.x₀ - p 0) x.y₂, mnF (p 2) (x.x₀ - p 0 - p 1) x.y₀,
  mnF (p 3) x.x₁ (x.y₂ - p 1), mnF (p 4) (x.x₁ - p 3) (x.y₀ - p 2), mnF (p 5) (x.x₁ - p 3 - p 4) (x.y₁ - p 0),
  mnF (p 6) x.x₂ (x.y₀ - p 2 - p 4), mnF (p 7) (x.x₂ - p 6) (x.y₁ - p 0 - p 5), mnF (p 8) (x.x₂ - p 6 - p 7) (x.y₂ - p 1 - p 3)]
noncomputable def osP (bk : Bool) (p : Nat → Int) : List Orc := .bool bk :: [.int (p 0), .int (p 1), .int (p 2), .int (p 3), .int (p 4), .int (p 5), .int (p 6), .int (p 7), .int (p 8)]
/-- what is left of the tables -/
noncomputable def leftX (bk : Bool) (x : Two) (p : Nat → Int) : Nat → Int := match bk with
  | true => fun | 0 => x.x₀ - p 2 - p 3 - p 7 | 1 => x.x₁ - p 1 - p 5 - p 6 | _ => x.x₂ - p 0 - p 4 - p 8
  | false => fun | 0 => x.x₀ - p 0 - p 1 - p 2 | 1 => x.x₁ - p 3 - p 4 - p 5 | _ => x.x₂ - p 6 - p 7 - p 8
noncomputable def leftY (bk : Bool) (x : Two) (p : Nat → Int) : Nat → Int := match bk with
  | true => fun | 0 => x.y₀ - p 0 - p 1 - p 2 | 1 => x.y₁ - p 3 - p 4 - p 5 | _ => x.y₂ - p 6 - p 7 - p 8
  | false => fun | 0 => x.y₀ - p 2 - p 4 - p 6 | 1 => x.y₁ - p 0 - p 5 - p 7 | _ => x.y₂ - p 1 - p 3 - p 8
noncomputable def overP (bk : Bool) (p : Nat → Int) : Int := match bk with
  | true => 0 + p 0 + p 1 + p 2 + p 4 + p 5 + p 8
  | false => 0 + p 2 + p 4 + p 5 + p 6 + p 7 + p 8
noncomputable def PaRw (kt : Params → KT) (bk : Bool) (b : Bool) : Prop := ∀ (P : Params) (prog : Program) (G : Giv) (ad : Nat → Addr) (a a' : Addr) (x : Two) (z : Bare) (t₀ : Nat) (p : Nat → Int),
  endOf [96, 86, 92] (runC (hkG noJs 700 G) (evE kt b P prog ad a a' x z t₀) 10000 (.call (.ref 93) ⟨[.ref (a + 2), .ref (a' + 2)], []⟩) (osP bk p) (match bk with | true => tgPt | false => tgPf)) =
    some (andL True (match bk with | true => factsT x p | false => factsF x p), exps (evE kt b P prog ad a a' x z t₀) 2000 (match bk with | true => tgPt | false => tgPf) [], .ok (.ret (.ref (ad 96))), 97, (match bk with | true => 225 | false => 237),
      [some (threeO ad 86 92 (overP bk p)), some (dct0 (x.x₀ - leftX bk x p 0 + leftY bk x p 0) (x.x₁ - leftX bk x p 1 + leftY bk x p 1) (x.x₂ - leftX bk x p 2 + leftY bk x p 2)),
       some (dct0 (x.y₀ - leftY bk x p 0 + leftX bk x p 0) (x.y₁ - leftY bk x p 1 + leftX bk x p 1) (x.y₂ - leftY bk x p 2 + leftX bk x p 2))])
noncomputable def PaR (kt : Params → KT) (bk : Bool) : Prop := ∀ b, PaRw kt bk b
end Mine
namespace Mine
open PySem PySem.W PySem.W.X
noncomputable def tgS1 : Nat := 276457070066702071569128380838525735630876769626233022218200975158494947279821212234184417413514041049487366708079526131763325468281953747538175924578274292712771201075296012015552679858988553121992552579595169291403793392530192273864659496120869281670325411772445726978322581345915179482737713105252308507001782270631242132705066494836996558237361487775389659936556348680139656408546925316162180048836907122374829655927524166836283196517925883289727976427328587145283008555774182736940917699136023568705535015400857595163747627042560550024363095301380082519128313859825571989761650540884433104199350759618458666250867856868818586663694772430830422614690486953750106077036799799860701702690768322177576294622748370645073532650149448164209305498330315113781613776846270656670917810840423090223168393018488972199163825323679802754248819306897357534663930849595092482632070560706361655254568580858977631843042778685090101090497759678326254585333811588680535511867711374539148286150795886479581442952075259403179891014823853125620086671280943351583218673458204036438275919405275685752113066043948951305860392360278806968493036519638192012832292004785238964898087627610827707130349166726710408295940630887605405626548582396131082269360303701952552588146601184945113446032289840064490713342586946853518146609530192047879686539220140429211885432485213427400440368301907396810197972545677417121098478914063713064703420851937309559832327339386260491549363845606511501670684140301255420710957687231879649657368074907939834765326555771468365456315099213890615744534102827265290725114909546036454639407897097193144572248756233728501053820388048001144680027687735144208379829545835339748961903549826321951047103224801621028938212370438505106742927131999532228928838177413797326757391946304128120416925699609158205172920272844631517920398983708260381978217596124967409332480855008094126730239532900732659917162802114816732020155612254488055997718666039681906675850628905120823727898429928597153409000814716362927732300207135935092747796900180395196049966021606982194679508315837997673445108045987906324590295965832182098872057497689307476175024127367945862626024730069712560638840326840954381947995101375594131976330710672851963482908011271926958710254801468315170875686991950188143966569746003601327354554061041749196800
noncomputable def tgS2 : Nat := 201990816942791284221689767800160250554717741630474464593865912964624565202883046895032690240482194675718273435204164372574440028922878260378580474150114284764888536790614292355502549468075969421191270293371736777623229927512638581305031009902864345252695372339342810884682456053091147657617895502451798831917273182200008366273309661764333468571267826836528187951532511488354784911913836923711625672682401937356055557381452134421819082179044914145295313462346156332674222869182006130599397535199479750710888893824130980851807318146404293837482308866420335138057633104399836982869731575089832988017756378169545136065704271516016125368200918098532747764449044411014118228689586966336756594215948747410035829696334777485216909501714061356552305052941376981903876779482989045391600365193808165281313874879850849221263701774416050405929178668884975004846820091276067964231255789450699332602684455715026822432927683483652122922531500255307314407033188120378140996563634444005327298489441774805843576249484730659708883240190380176316864460412567278558097526561068430384373103164020629119801237825511956364438488825488517910907018320997040062515335087917610415114918327313290527595301781473218812321257901291873501073579512130147656651057234838438421253139632018358237495423233664020584453397110376947094582243151117204889357759631120885304309235029439562278643130420483953376901497353441514366327798582100694719819699472909005855960909734090540907133048741661819715035328417207829227529989124448414822960479351385244810756509996382860454113235739390115369498639003154395574693651920325879328280551855796806823527962040012362210211443648299814835827718108714449407656659105940423443881139621951547048989266590209895355252116108139047890379125277689897547134865975972550373913032809277620621278429152214398296325647786329919973700368745392855629699693282136514545317172274380538195551653629871992021689560321726004305486837425770488228676536716847242984243288689506862868704172223972493079651961026949666848321560226856009641504128985318647585214891669475619786677427935875129277573276624529327525028619432360838545309544363147992773082033189031342762642707365672859814866220821468625175179855326181202710116827186045454132329135781991080468679678498940857818401524695399768092870129769143011646491703604681080990192858832526911705992828460645784302864076332133090631703178535566123792597634666474196952851294712404436668398915038738382848
noncomputable def tab9 (x : Nat → Int) (q : Nat → Int) (u : Nat → Nat) (k : Nat) : Obj := dct3 (x (3 * k)) (x (3 * k + 1)) (x (3 * k + 2)) (q (3 * k)) (q (3 * k + 1)) (q (3 * k + 2)) (u (6 * k)) (u (6 * k + 1)) (u (6 * k + 2)) (u (6 * k + 3)) (u (6 * k + 4)) (u (6 * k + 5))
noncomputable def refs3 (n : Nat) (a b c : Addr) : Obj := { cls := .type "list", data := .seq ⟨[.ref a, .ref b, .ref c]⟩ n }
noncomputable def argS (n : Nat) (a : Nat → Addr) (x : Nat → Int) (q : Nat → Int) (u : Nat → Nat) (k : Nat) : Option (Addr × Obj) := match k with
  | 0 => some (a 0 + 2, refs3 n (a 1 + 2) (a 2 + 2) (a 3 + 2))
  | 1 => some (a 1 + 2, tab9 x q u 0)
  | 2 => some (a 2 + 2, tab9 x q u 1)
  | 3 => some (a 3 + 2, tab9 x q u 2)
  | _ => none
noncomputable def evS (kt : Params → KT) (b : Bool) (P : Params) (prog : Program) (ad : Nat → Addr) (n : Nat) (a : Nat → Addr) (x : Nat → Int) (q : Nat → Int) (u : Nat → Nat) (t₀ : Nat) : Ev := evC kt prog (parB b P) ad (argS n a x q u) t₀ 600
noncomputable def signs : List Nat := [114, 103, 98, 114, 103, 98, 114, 103, 98]
noncomputable def sgn (c : Nat) : Str := ⟨⟨[c]⟩⟩
noncomputable def osS (l : Nat → Str) : List Orc := .texts [l 0, l 1, l 2, l 3, l 4, l 5, l 6, l 7, l 8, ⟨⟨[]⟩⟩] :: signs.map fun c => .val (.str (sgn c) 0)
noncomputable def dotS : Str := ⟨⟨[46]⟩⟩
noncomputable def mulS (x : Int) : Str := bif decide (x = 1) then dotS else repS dotS x
noncomputable def pieceS (x : Int) (c : Nat) (e : Str) : Str := mulS x ++ sgn c ++ e
noncomputable def factS (x : Int) (c : Nat) (e : Str) : List Prop := [dotS.cps.size = 1 ∧ 1 ≤ x ∧ x < 1000,
  (mulS x).cps.size ≠ 0 ∧ (sgn c).cps.size ≠ 0 ∧ (mulS x).cps.size + (sgn c).cps.size < 100000,
  (mulS x ++ sgn c).cps.size ≠ 0 ∧ e.cps.size ≠ 0 ∧ (mulS x ++ sgn c).cps.size + e.cps.size < 100000]
noncomputable def pieces9 (x : Nat → Int) (e : Str) : List Str := [pieceS (x 0) 114 e, pieceS (x 1) 103 e, pieceS (x 2) 98 e, pieceS (x 3) 114 e, pieceS (x 4) 103 e, pieceS (x 5) 98 e, pieceS (x 6) 114 e, pieceS (x 7) 103 e, pieceS (x 8) 98 e]
noncomputable def mail0 (x : Nat → Int) (e : Str) : Str := joinOf ⟨⟨[]⟩⟩ (pieces9 x e)
noncomputable def endsS (s : Str) : Str := ⟨⟨flatP (endsP s.cps.toList [])⟩⟩
noncomputable def dotsS (s : Str) : Str := ⟨⟨flatP (dotsP s.cps.toList true [])⟩⟩
noncomputable def quoted : Nat → Str → Str
  | 0, s => s
  | n + 1, s => quoted n (dotsS (endsS s))
noncomputable def quoteFacts : Nat → Str → List Prop
  | 0, _ => []
  | n + 1, s => subSays ⟨⟨[13, 10]⟩⟩ s [13, 10] (endsP s.cps.toList []) :: subSays ⟨⟨[46, 46]⟩⟩ (endsS s) [46, 46] (dotsP (endsS s).cps.toList true []) :: quoteFacts n (dotsS (endsS s))
noncomputable def mulF (n : Int) : Prop := ((0 : Int) ≤ 3 ∧ (3 : Int) < 1000) ∧ 0 ≤ n ∧ n < 1000
noncomputable def lineF (s : Str) (c : Nat) : List Prop := [lastSays s (sgn c), s.cps.size < 100000]
noncomputable def factsS (tm : Nat) (x : Nat → Int) (e : Str) (l : Nat → Str) : List Prop :=
  factS (x 0) 114 e ++ factS (x 1) 103 e ++ factS (x 2) 98 e ++ factS (x 3) 114 e ++ factS (x 4) 103 e ++ factS (x 5) 98 e ++ factS (x 6) 114 e ++ factS (x 7) 103 e ++ factS (x 8) 98 e ++
  joinSays ⟨⟨[]⟩⟩ (pieces9 x e) :: (quoteFacts tm (mail0 x e) ++ splitSays (quoted tm (mail0 x e)) ⟨⟨[13, 10]⟩⟩ [l 0, l 1, l 2, l 3, l 4, l 5, l 6, l 7, l 8, ⟨⟨[]⟩⟩] ::
  (mulF 0 :: mulF 0 :: (lineF (l 0) 114 ++ lineF (l 1) 103 ++ lineF (l 2) 98 ++ mulF 1 :: mulF 1 :: (lineF (l 3) 114 ++ lineF (l 4) 103 ++ lineF (l 5) 98 ++ mulF 2 :: mulF 2 :: (lineF (l 6) 114 ++ lineF (l 7) 103 ++ lineF (l 8) 98)))))
noncomputable def lenI (s : Str) : Int := .ofNat s.cps.size - 1
noncomputable def SnRw (kt : Params → KT) (tm tg k : Nat) (b : Bool) : Prop := ∀ (P : Params) (prog : Program) (G : Giv) (ad : Nat → Addr) (n : Nat) (a : Nat → Addr) (x : Nat → Int) (q : Nat → Int) (u : Nat → Nat) (t₀ tt te : Nat) (e : Str) (l : Nat → Str),
  end2 [27 + k, 32 + k, 42 + k, 52 + k] (runC (hkG noJs 700 G) (evS kt b P prog ad n a x q u t₀) 10000 (.call (.ref 98) ⟨[.ref (a 0 + 2), .int (.ofNat tm) tt, .str e te], []⟩) (osS l) tg) =
    some (andL True (factsS tm x e l), exps (evS kt b P prog ad n a x q u t₀) 2000 tg [], .ok (.ret (.ref (ad (27 + k)))), 61 + k,
      [some (refs3 3 (ad (32 + k)) (ad (42 + k)) (ad (52 + k))), some (dct0 (lenI (l 0)) (lenI (l 1)) (lenI (l 2))), some (dct0 (lenI (l 3)) (lenI (l 4)) (lenI (l 5))), some (dct0 (lenI (l 6)) (lenI (l 7)) (lenI (l 8)))])
noncomputable def SnR (kt : Params → KT) (tm tg k : Nat) : Prop := ∀ b, SnRw kt tm tg k b
end Mine
namespace Mine
open PySem PySem.W PySem.W.X
/-- the law's own level: its three helpers by their contracts -/
noncomputable def jsL (c : Code) : Bool := match c with
  | .call f _ => match f with
    | .ref f => match Nat.beq f 88 with
      | true => true
      | false => match Nat.beq f 93 with
        | true => true
        | false => Nat.beq f 98
    | _ => false
  | _ => false
noncomputable def gapL (m : Nat) : Bool := match Nat.beq m 55 with
  | true => true
  | false => Nat.beq m 1586
noncomputable def scriptO (vs : Array Value) (n : Nat) : Obj := { cls := .type "list", data := .seq vs n }
/-- what the helpers give back: values, hashes, tokens, counts of tokens -/
structure Gvn where
  y : Nat → Nat → Int
  q : Nat → Nat → Int
  v : Nat → Nat → Nat
  ι : Nat → Nat
noncomputable def Gvn.tab (z : Gvn) (j k : Nat) : Obj := dct3 (z.y j (3 * k)) (z.y j (3 * k + 1)) (z.y j (3 * k + 2)) (z.q j (3 * k)) (z.q j (3 * k + 1)) (z.q j (3 * k + 2)) (z.v j (6 * k)) (z.v j (6 * k + 1)) (z.v j (6 * k + 2)) (z.v j (6 * k + 3)) (z.v j (6 * k + 4)) (z.v j (6 * k + 5))
noncomputable def Gvn.tab0 (z : Gvn) (j k : Nat) : Obj := dct0 (z.y j (3 * k)) (z.y j (3 * k + 1)) (z.y j (3 * k + 2))
noncomputable def threeV (ad : Nat → Addr) (a b : Nat) (n : Int) (t : Tok) : Obj := { cls := .type "list", data := .seq ⟨[.ref (ad a), .ref (ad b), .int n t]⟩ }
noncomputable def oS (z : Gvn) (ad : Nat → Addr) (j m : Nat) (args : List (Nat × Obj)) : Orc :=
  .given args (.ref (ad (m + 27))) (z.ι j) 61 [(27, refs3 3 (ad (m + 32)) (ad (m + 42)) (ad (m + 52))), (32, z.tab j 0), (42, z.tab j 1), (52, z.tab j 2)]
noncomputable def oT (z : Gvn) (ad : Nat → Addr) (j m mm a b c : Nat) (args : List (Nat × Obj)) : Orc :=
  .given args (.ref (ad (m + c))) (z.ι j) mm [(c, threeV ad (m + a) (m + b) (z.y j 6) (z.v j 12)), (a, z.tab j 0), (b, z.tab j 1)]
noncomputable def tgL0 : Nat := 3198479558750657389884009294589977242581175457418513700265505188459013475575447781119576954370055826737285084704908680609442290173190897360122179802914008344341670300239797136045471839311954474396962663068987960083288980490063743732063140342275667288751085674498158315532453498544771433457499324268924819761882415859647610148885880143686941411314303946553310427899986618688276289037461673038258128301614870820867457727067469776441294353206937686759459821278679729824120452744375911614574060774408356845102609133221122994863684307891844308955223160836594238421379405469481601457254888852818636505526173351949899077596234053239625034765954029554439965572347482663428006274157312506402958862109988707575814271912499541791872454197795879652019962059941918806138645229143033263854126643370095749867110934380107442221039344139751191290571106613505253800651187108896897007171889887252392700940139602129256960798215159094916005705310560370718233673910014546602340344701133320933753859536954708947573680105466717895509351696901668425674133829895046389887867061796189294197898379090731772113496423923490076918741766201647701697828172973038367256216164615743667900460915826901494881274709026819791084336160252726101061454034439939596672658107395844804506329687653428759439920354113076627032385170972431445760735827031726325318861906257271294486610307454734393730753361296327024216037976566150217851002328443611006837485649932681031835745229376108721668657425158658932598957243967909733512249320226632456974242713855122790630542418122854112492818927577922011381482240353258449648665923220433743255540145254729676671457762786844706554381069084228161342557800458547482812808262944462493831052450909362317286122143719462831769989808849461854822252855844969747757662962911107299839574214796051703021314647884061814842613958015411658415052460056748679502829057262137666690427996667669405585352684353720627208785017377434687527756226739316912503492455801719775048533703870864929095695149056896882735788048863947036326656301406186450955894038141850533640308523247012087583778196770703398747149566462476652936381523732395946668519836417579053552056634218680243852166886392056251678566290830286326896667662396660767268547612787215441416781233111378015316768361747739186967450175990521782483194993969720071683684480427107985277536596547424207140159857791760176693166092751719102771196776913625063032974159577735906053666654347715677089070905123888549282323436496620373806780291242368373495202357065791838366957717782617120174875872894655885946881883112286312880319307262165762920933549053273933764534749870029772644166128537372578300690160565380517697395355237597475955665164622477464756613727477882013975929504746041456290722594366405315042309171003977716152575757245774275280599000049791789799096516333250655391771743668304111651067737880895766498595281123449010934867644543446087801782020234725067952343880742510451888601615075919937789434793032835667958729257369954208903957969025205153096538432890496268194742909955926441041331695956115686679787924874478924849930255374200444307945911464873439690735019653773631155691468329434783688976404579229472299411829739634512884953830589412877820039600315976456972767593932412928585589923941758004034652586686310106240351739206813106993025476783684027081366060338441466825331636144407474727028690633174861452196401364035100154680980438670249851099197974952750592159143942277066775467279139419823332380563223106609308141213240326230123322368401561700251653627248926862413664443123779449123289997964141450190841673355847105460168857404518658398603159419984862167713665871531331699853414346553776194992384700902025394794120421647495997902032687935857351107119752062764511349126322778456966155317484162005408600719748909046593285976706402952265692450890008068231822510195642767363161029126430634697565776943810674842670854875338486623767833949258221670087340269789440503921676041486817966350115473857097234954595030774488467691918735955500722327940121262598056850595859763684542190748228510174018672740246842471468391878055298913142459150447800109582532151167948564618067266301557583957062247647157342736307379993482753323209630564460344440994394645525116747901640656415924257033788130794619099350985569234215127657914552207756857624097404846843983729759908428312839442663391899571122525673512409500930319847684795501681841410085731361845549697818170472105669319776934328124609301830806188450986836251792132487567759145425088939136513187421164558455384062093364853248444153565663266207765418934339182070656114592006815230231607959956989684179011257064709337241816897656573199084354781065127918822229501926454034533298631213542987759507070201724879518626603588129315006388064678129250057081309177954085049794190891906896814904158608665284032156294344449357480062628813432629959715994542799247965155311302463463147153614380994011394121958420789089460096068007438548953757029288628148793407618329997192582328349243277522785369521557767386799076282653015895642574226981881412076637478528053324033878476962732951943514458374898386859877322206852687438383979730121453467152991112202836247793526119537819835294513804650827513958022193580576257163652635440189974920927525217675762702381455192323468302803892890016438604821159454728135486092287038280220706257912421765672682663446948767086087557498400178511926584375646864096515386973046670082841188122757749060042785778604804875030708130887413416191052895759737081489398956032
noncomputable def tgL1 : Nat := 1833927110316791836406766277429129382401208870789678111047807071664028656842872564081966497978471450393621311848376764922704638742837690424896704494798456930783343262519242957402508269895749075672376271768045635436667038820917893658148775770499179881523681883811734328641224607268756289518178846210460123819197019738205965371748869383845744365693083208594626528785106593486447692507271234883496638358277085813570692376584529607869641118804338221769315435154279371293658422112300820419254960313642126313721472111922225355350731706703558538577463810042156439555105973531056608508883962294827932075479615553389813655399798323888860727756681482832872181754024268317779672441486683880837277977159508135618055521860823310591533077180088564289485382332720377385432495478746863636628916190227628811534894222649769102833628613229398032342342911544159744961556139476712343593828473990696820048140811221157593386640632564568205917864423290571032406973838514211603831255747876889610828551532402161190324167237726269385465041127665960874328700071755964293354658037235585047632846287692747258303697399499455982077362082305528544348405116917462482875364698500189873371594405294031269399420826691922055148499461200600977469171305079420274249725592026539930636535997528992748048569833078517266881674708021370050680801828566318149419268926753498713294853798030423278913308876778461498893283143713437137670230586737493193823028076620059722328090049865835710400957545899020902685628891636971103232017091430098827514781968759125122652135679831185837797941699263753090716837445833899808688901812059621462927392129356850400443213632134373473160044357687588883839533773744415360311681159675110897405663177234208994436134533439498976535124012597750408330590615637932454827420520474702707251391747651230362525172715849932451591395325559546940943601014505671510014325690745792570801636762084978545209313734035039874485879516753342827648490769347435576446288409882956241150091800873552989873752818802572914393098848916746261719962582656784905037435786338737038140423086307494330901045364162345823726038464245658408405842004010785143875843756464852949026347131396334264334541417331236312581899116319953007660866946215389546223200124277547968865309403352167557447255057898775687333889146270395530964517203814111789126686819140674341888687826148705544752339509614860680107411270623605943042216157069566261922145804275686795389520618398894707811828310959227015452858647494932295346494088501216245368722351683375511639058783981987761035128425701044582388214902039011099531455089287587107182488013169364265254566955377175576728733851412458581606832727639154168926553051830413905577842706606046943513896312152283734999959318881605654870098533367929679443157423518301898995703239109023860022293769222838088298126547289907610951280369058790726597625695294021195570190165676800024033286180137576354831879419919414825096227420603427279239807627525635584200862064959685323594544180172061636987965178715945534124870168070973862443449046880381304932960248530199498048395412263003525498602796595474597475233487118734194600392883734288251391640410699984092417124374817178570052489390421222416433987227708709880208882119434451076116338699671277916892046353991807884931667228987707900214839355116208117299051846205421205484852228570467661679921721002365992715631003854272947857150294938751399520199046332120489374777534236023079146664987993126095608237018867561122665024423892381521199777429396607226361925389013154434425040359442137807591749382350703196858878537840795767052670293161184286829205403659701922980558654890104821655194358150625532335911008577842485035055839332419947041496401779542751908718391048591271109957253043459842766796969092223365889595963937706182283703887948106268689397413649012039883393927436511211665249050784972355141530514810139797363495803630639930074569153471302010903062470576047483938590577060262389928092016147392266592173344215313483415417395668658375914307860123666814114001189949398214558765651584858912084240541745787294811148840101307703781996229245893397409327808717448297595652273923501027911167885479374913497183279735588169076442240168018806856577784997741160794998867492648065469884248529538461488438951438790206225871432963810937125473741913624432536589550087688210662526881604502074265823038575041455720324012320672152901301842629185646670704870673691984665983087061454352280957012981546436399034958314286596311313203995206784815250875464965462414778073417210486029474810309873176440838574880076208328837278988769764398316093433870336817135463805686533624536157000116816779644864063121141251002159062081458922877943782530899253516597943683106510673385087884427800036631631706394668385339037605932684842689834386781285824334282259930811439801145641889014026096846480694932465942984616664226659932005431356536798546145931687095452881937098759661149148716689035901116170760841970957755337913070583562571880635404582420691608264726572195792528120468395969830014708973084041921651750254570831292036433787472453696486188090877387281420465063914566667752186319523522540820934631220197827444204634534035958138266590748177479406336349015486547653878602773785943406249342018501094231075480938740144563574588327359791047911279251641325574095062093394896446390735803599804535002458632613256484520577199956914467187406156865501767455427000404654834223806362828989716180565263746904220221832514049230886128383963640456899120605222582131549745766341445964922655583329796117079922502804191295427457557183222687949959178551560462171015332999718819703208017920
noncomputable def tgL2 : Nat := 1051527322334558318584408953874649462888310002351848624511436716475297316178707423168436463199067272177360655770842679303443330221266579878244891939633553906269668175287639129712228115260971321825481285198625364018905652985328257651870081523818040847022682788804781197119369020871948564565458571299928678703719595706524628225300980730006157057414878746425331930681704667748984851349750110431558064132874972449036469095677021584993637350969956142984545724652059797421335200002292600370310785426549453699474519199205408658637259762579292716155047087834625018305268685660497630921014177208814329082660983667022442356383859746344551083308290490541683745294024179998519494026614428055827473422721074605147354999649969818367142219920328017210794014099234096189239864250044936385254282008889362228824621679194259531870982588325357404997830856361375217947629686654861254304034044013911105755889164144145057620529979626060309160440045408131794289209461386316808071972636206946088927527073925997844919342122861608130411655591300024189854498365878639939874076333875057075455103913186411833161183745892794067187183767174499948022596435371396589554922442157087739666182325525491105247809148151497765056325378020019977366317977258372660702869444363376612893177271367621206218838324463762881377671154957560664865582123613599824376371204940255569157818168780671279583685393702701337311686579493752769969655104920847115894595502865257193377022292495477881283379579714777671072095056469440778655724391712920955418216881293611908183624900864662783104411299531317162657492744031027397473273043314757358893797868621385683402401895165949904655110431996611256097918011709619624398022196093728952680886237146054647117705806500890657456608777126433730652743844882975931930072623223810214471850193105452025710297102274620034283186775786965350479010525303196829555629997922428931522206377855393262291155031986924739961387705857861683582062903522651198483201859764455973344048267267939859298186473572038058801885704370391661978939171282938179389419194117553506459571794100483623587932735555160820619005517615762608544454880372244984893841889683507884431882448864372621975993234692021475596690661794468705342836764554247497536332275175282295390518735959971101276357322537347839356875737708775005396968047594971611949452929969125707997811011296709422064944302235365180938913716868462923583137209762979519253889414271781703417672897889702743947392760966443200301900404130034663921957338119954706116029987342015585569434041224956061938996905760679131635131623269875036539689780875172112673558916363928310221693470012059168586461203296436340208274481981881105037022595095882545332333923238852197218108588893667113432378833541093321691116362143632504590406064960355702917239443064744168633168220841396635036854614533259583096774525508646510052865758905945149401687367462844098288733606575802373216241387744483703169923597277882921175951771957523294927965988522138552104012366713813095498569100592123071287554071610712473347063444209919215915861492675716117245889401515265444736260119067675237222700563613651914351717097645674690916151738157291000374112515947491855315425114823246636491544858153747480451674144623374013627951488572012070944761448365850413948858290436533711511869879901787307113013219923307666975018816915362147049966551410358574659239518254207384252781175374346663825448127535189938283248055392668411571676657371628172286560630324417806403681728726646118070778440825795799013201361586321309332195577588261417264967573261023657964344733103721825264871921879167067834733782820367646786886997024631949851405715951926721044477309401014021869844028816242813891941595944032738815771971870369966573372119684891357044892611734127591165095564042653901872075241692275732515928003020641923679192847675918352549477262723190451860841111095970480873434567439414914272391401808118808147301717058657962639205569773012392571579550946409099904471533509890857570830020450495094845141837137069235218055260278824609349513509134181390964065729165226414573178126604165825860723858779910965132551098701318163217079473714290200648944681285202024516698838593820111189308295940664903375783131828569172448017049317580566198199515402468197278552111786079180063771158388681961538294495681805143769988060651159589877758911689811027939934694687667700595337549682854036908216483574007506445977475496457506369809797448818461183696063993663403928383598732135901732362825499282559188508749783275603787489074588979467838728802619095275615946167462261155336459549498220464131089942959347223669277027757551201983148699088505428443092337532503736554906829680768534365271360885603385276070624960951133915635269800703212060161174730902339230805459550579768199200905531617574982723436833596331681663892083996287915596104598603756453404648193476360184592133500313481358869092701320986439223239410085437092117977671226824325756098654095741008644027571979406595496114471864091976320859646863359902669232273353727417008789146187707846395357881987111712295045625261921230309895432141227113875026877714190323767087948376033622428617051259918562943373731680664452302966326516023114110749490572124674228820854468398848646133834371383042161359218815935725032192610085522078607897720969634650798411788277963842853634293961480999481057743669690681823341493365420668989725404749894306263883300611679992529696920486021204337443405375854147331528995743993345731663100664850125941769044173405039256549718737109191862304418443696131749021098828784631878803888118153334117638513530544941847911767211800829424451342682500244031589080845625192208690215765748074120594154202181364956997907486465174954759268244031951726285160448
noncomputable def tgL3 : Nat := 602919114612513828958481439691648413576227606872948626848782442359889164150164219186710912519470714367039328995162871968338525827716004821370660504326762967000766834432499685981501311697879525411531865583613462198624688604090606304949149741446556427557982208048071503744102572556195334478590716217850874587350875077100805136611474718961454799497582510941305957304401799857268663252981912539942171854362418531307158876266086823536883740232349066581650903637147002812259887423612599535385262262400630800716443806432027740934568946937073760518586892196914223556316461405071030502670421301339101465820412931624454834218967924252979870531100841178872384077649686050762332595092645195888994392028849320911532433574059554070539522468066299222291873491026934005957782083559270642424229134370321126815049102506737511361938180015350357176347990834286123045194953585152261037662923178351298920141696090773717068685985823094069583329128112291173090359386707169938151496436916628326202021147371345421187342493201645952186947989594608247259888359521146647064912574711253784554229017660436032481214948850240914375557196100916419415354050967049438102195706524421426296947434399442770590641268398754042708622058333794536030802952554535690662004648017700088103114744577722414016576937690049135872972776576304838045461035860160833159839223328174739812059638463123299929405277372001949381111176276156442464812740510671007687204141023434016218797675558717022804935972960909256857408484221784541740492619810220770443038485464762472599533298425850170044766876037556407370043619557303010905422178773209497183755049338119574891867257800338621884311101720898968210630577912625836106913727938270252542618658982346967800034664804749692954328752885714836761695010952002643615713131589008292738209866195561820980524098958230022950902956698469806061807433779745499913011240768507016338044761856385812256419630915362721918676791128595872407266516725392666196025608703453303226256252018080141428580347171275951695033211646970952921016344986649524815079433059620294258887707115550166955461698784863214697764753988941714466459264367128867295050683846129966564316916847695901117956168396182396701199900712092035070308752972914478599094074923254983045729019906599113437357214646677430248320775200966709214572294671000865976174711809988556210632124482475113015157981081543277067480168063165967473303821617436476010355216479109730190746713404269957911328359437517468185325481330867325306610281103555371519172622848939064925250522440744716351775101128668948514836646037416202899119226700932236671201297209735445641042610247640554285870357806387822637431260860351586965857681055695715666718884654049813479059962583074559033619051535781370694026342399183510661409022279862159790582186428443065324549945997359261781373068480219711481227883487366371323311599375106408974472144529938560122736679176786147000528287465555951297256309639673234154213275107226266137990917160649397182085363269012183795336410071742420532769798409824040299589642062101285659099876635840434401802928000841169760311797484276820843220024704317528710457816259595463633138688649170830956179371673184151253045932433922962006403528135505685507897936797857210220157046949763107209362101026975886465457675538915878130168653620948594737271149741112574673443513828316881519816718243035566509041287276252778332980827570424075221058420481473045266186607543075138095024754362036053976764057571963950571063561506719386590510116800881799374563593572059098783862932164895036749784016629554871656023778409385215081324643692890962661983178052620968274658614288486592832902850940171903643871129574405975906974998262750869772556194808396458276931915343062036865831179340486702579515957408880111607107538224918353391186813559098631623217421284884510163635895918247075690258166271399340680960423584836881024600494042982344517233234812362589322902275490842696493091239936931255391500186076003441176232931176306660469783004438570223490786060785551173691330569063027658278075251583830386889462759531620784877995707033371528174085085268122514860384024927665796996022055404519945174461011989075229057627108004373452823686262521268985880122775109055725405662626592792700996466837529362815353024198737133614773477785980826046218147223407175533001308409837306421752752252374637578514097673576829380437974931282324370729923696203031122410810751636511119868690925066924895835351584672557684923564375381987885191879044340664826496439661725534812699162481141939452092427693710291644758668309441522577805616746259239258145980512884174518964657469058171707793753689352023375291499518706304751194423147039570146428748972227148194080187330051907699927699746239602707821550222745190620997511183935873970312980345071121983872579799789754880101367953222739080480301704061109304228588794371196599128269724760018590588460496117402284525972160180843813200453758106862853097287366319394004662754475495287337640414794619498365290460711130213437273838997293315989844604073986533433217851682449054441669027848249780546520492931404304752089093512808667708552464538147078538715933773055477163284833949476981356197164475824177916209886341742601363413232943457899863361053536063126923900552079234701365397978926714911157007244609702400341313304657566271497796388993166774445530312290991966202414223348247242277754337880693349214273088255523630964171959894149410342177619578060868135995603075034873269183727197485725980037455588543637137388873396343214080744458447812605730323872631159817979135696037503467558117943200978238169084013162515649602201599800256900918006701029553956518651247289234671792091285278270542757061891643265636868224124564234306366248032127062774747370980242191284854245466566095654164018455635947265798422756108529459430778848012540699697454111522816
noncomputable def tgL4 : Nat := 345698538729439941892023353490919551237588832332449928446545321202823120909927906414079410019557418231669535968435349885802742975072676196249149066698907720924251727561261153946620360516018655375317913167097724548028090227783334401968657800548267124947459950397011417429938762759551645998582495509680939631617328067770707692341305561651264802894655221089557977571677807191037139048850744949566626783440074321567308379920692390447208367828788950635028589281425276720274574282175495528667861415653169271977372659370794463937238637973132828423173884733884981549454735341060238335276279261333001545250810982248341328395108117731570876980874939925954299724424915090744493255485486383946186671376321076068142502765838114683082270557209224425683619268594848427033369863629948953444186171199012042412930027081253161386920382790326050847849233766992484195347072547868072980972543598175742278974002853255278535372613473515538221789130907811523028968293287153969905134688483163430860960482494242637847004513474477920574306821913066211249541408662650355000298314262328518184658270119443595635026647582548498122807021928576559236715960168189813428169512322695614076787674750724835730421381789048436888318159989756838261577169323701176427533670189736873999794386676059057786519101192353041265529875273539213292837081643448869610353370113717544163715084547861517424417986087773088343625736976436214229521870243807647584348516934655404853610135423437158657357317493210204438867426925900143873505191530011376759675103738614003477873240738468856831353427902591231462673828014503714867922988226086247470084124828856833037608374851880840208952746856894834968975168193965449253087144676889890504936275567418983709031234845506060940673135240948638633963833537317085337783945811856109358573383784127493774694532136613529178677559653554871317053246823262951835082739076107567314917291315661794171479572970548495392119469036045595980615676998434121204231116145684538708931306738258403699860948085568394595400734624973689458896455862358320265991813131017853648165883926247375848366356552872276680398601323109269245605935740661014762152126794742982294371717911606791074649994826095125232656984671956629419508985613988110474398531562047524691047944885517100033466112938657291716950559696277594117988595957703804545977723659926300942288859283880783209494926406553978803094798967700248121051888139333294225273388637527899729573272953404153038105066113209184524051842552758234771654842643696000401195638941066804385017266491282081982302474456475852841273962922360128705310453799651543791540627918083007761474728291368523845799566968423591544576309705581380340562230908691033180652008156352475953986942853408486256428896141377163768092556390850325119014911300291554080952875185043050891521676715297633382144532261495318124836055844447650502752833020104690295522447729615850260919005101672225627520114798856969423687762142871628216168870225571548185611013768082383646059237379675698926712353514073860937785565492210904432678973322481811477054534787116771526666413254828521895793553902588959384692443176631137213317163867243076356860374511174186482184826133218266985682555163934829651332872106964746644276212837080123090972294602202575225491962455674680477769557785727220288921945950948458414734755342648698831137822411484825227218432855424595199836663813587600029824258522043203141647272677438704123651920950525565711642705919978126667498572020747986421191156174043677470147869870866218004739239185546415454773757166326122751581863408321465775515678819306148176367831061052923956167957726304752378116544153433685163538023918951700485777107543874792410567157389725461493158918479496282195340543671000644342705727367380717435872590028684452292141032536975112115684561461512804658003655009868408960987558755182913610108967776290893218766772342415559680253575125851614912274816894853135231117506003000225604530711854446382906570999168662445346490027307242980179021084306164805994987536172179356386310184723216922066526338609975211442959607466720157888143896602994376720636709150275918624811484579480697882477224447465512318684690391254491140649035077922868131223735098798184822177913461126349190996341931271356257270979906373000429732939980867996202419276457427160607176903146940474603949661407390880440491607412685558526139511500451511520954622284919068365918764523740330708112926346867882105270152860004043790387811967986902288421893296595395573226767350604031592790520030726207055749559631113396067203945809785096878024119950026286683382385669634297776568339445803271607750483237177501925714603329154231229679617885626926673470511954568894779240896401844466444467682286400539344978718183544588365884627336507545667735511284332036666747887386809276801441396506634295352888283849346008892956588282224723472407525865339176952193854698116697655726770195198711560490451312050521896041717786887213006290933242161578608768945261887551510984602194964051972357032967267152744693914202334879343492785923763941046127460452822411106922948188416976661545497093535247645268661168493011937575032780431048899211247784416674497580324294235375603318238324019726839498822279001459896376242520818649520035357626649392540152203917464078659489076519156006225753580019893856907108448525599358491998735210264038843151037938039633875021673876607245808527938967534389194987688837561198680209064337529064462247809393760752781905859386869167527438627878017254896218471251210093317340260221200560788348510452488058542843023567089282389499726373734303892660122363745477417263298965556837725714803948005591879772309107013745669153185749473706030603760918969917550563448327107705702654454914167788162741517331161356483831900876698323813889022751289967688010652904734904490212005368296312325115107785258778075219257182118142340811448409124098380218828058587404779200079363477995621048744211889218298364168888500092324020224
noncomputable def tgL5 : Nat := 198214780031440160314136138790801712108931604656463391364720119058062772572080843733665667630877125263521672621991437371782316054212379829163774679904163867360606530300129476845794985897044952705679074380517844557360685381103017417039031529516669203011134020707192927050377463350793415102283843333676670327353557273327051035292229235509350209949722307932973225338223190084562917633191655192850027711462541552583591115360689322211930411300399034523168488310837899893139130610740448584712372102977949880729132218775348124515743923374348521672112471401615087850226769980371042482988776885969588666408814750879912768288224019769149496152009863886267623679237798252104710949868307655106216961647033788285013277456223293495929247337070779142030784981226917300588512077917605677067619566314322011155515626871975957864841080446397188946378830894490781721910651584986223630629110378527090393568113953120517777350061862671263293327730104476262198453917486224903954307409880433717986049357558838522932683309476782554456651279389219193306749495151587453921429557077117754559156659939058229809789647543678486268578037613411456456584677076162850649926712597460351411167871148487418225983085020041959482863502210308482497614070034360820193655966115999332892588152418224275006743508086925484199006872608341569065391931548576156369547341794477760181290809675970390935193029558586350766758788889523869933043614572649740402786253645603673873737845099292337656297794916136953917795772792601076359730296429326985588633855998055686422871606027837363502627640294523294890300541321313294580447158353938015420597471753689959276960944194472289606909740753429874927218369163130817026261180417243001883510196286503963398894592354098952560153794582375714303993338135388330530477937719930306116694317624219463137119731780751559150694318545213263757864382458108125108104583324580420780944270472175809778447566789913122074203058174452373315164776258020186926631609163390334367185703453052186016619678302313154920767018051187507915230508803268642232134229393757817259363218831793675696076750508373828822795875352237465083223582546509970163121761474646055955232395792012566962657127786960015260455988153774338867363785887225513603186795162112763505750829333929175945558834437217471939875947882367330377540000519684704643604064860174486555199791003937784178750073591428003425551502312528830222875960943185482684234602399418984178963747179386618085033860349010057960621287544496708790906022750784971663026794757344375297143620388630956645949906483411169635171851236662559188126080941862813701648564704578148387818338727672047569321524627731944639105198810901790704062911833538758617448143603341699955491256715601302536413062808984554092438105214282028936890420896710013422488568495522629988572403277694133211369648016477620482590253477395729566483836399922066774358178079796034449763155632686253677832743449369324453970529247900093093491659579733828196657289975064727901761844952619989726904559393629385912735383194226446320736264177134221704571522915204490957709846303057672757203692454802365831037422118208431969019193680517552863354607700656802017160466231030536502487556351975699062679496342769539497274606177611920970765320226435315013670314742392291222646072905355996470442054749756517331673982626813484828338196853899756258494201879152898133187347746925827215818862079466292058889455233039103078642588581042890687216517835692423193873966762965543440315262181794126729890568877891108888106789837340367564725452715301513612926979710250605412523712036058311804880993907605701190181700556998483544521915553439395877511119531412864943787429230443995508752352185131597712581984885743624425580780197772419411688534389589180664500176170217855911527917727772995108540300413410198815377611951932721356519480369944263025583535132730486180487474213979704236411361539122490254039096937688483093101749875184634016890331175237429922793099760813666452422273226019125178249912428527915324140352400786572771884417426817377425561759540771989475692168678103781596599001313640247402879321297286309041327522864300368025024791919925859721719898044355256755437423543890713381953012297465673496124151045351519252861804305596121127084859906234455988261747113476073889370857543881899828727065260695382133397074458707090619176480566925009378759959057202572297843412855034542168629358782333119492738499993485144967335984309976636890809730487731665197516767101862689291583130469952827866553862689051026036722825775774414841402140108845074646056938380182643438998885919647156849740152904544118050452195884267217074352373941244174124177341882109702744346021220753258044407353033261001692665011815555081733774199365055515979810434329636727141990002332167817246586941649643772142444416847644038354053616401703045524459065931472351665552253236071144669165192135389538537997462626731931251309051092313848070042188225506502633623711353744552542468171641984629047610352572709052686664804827790261467414368537510739869164536629081776420943518998720454488703981953788726369526048414406221149118949274249304996396817642519413482997646545550071097990466079742632949991105189261136292910071439968033316279372361283665218584820407541288490487098295057839743947440282378235179400108218380692679495796336873716229402618865003277253169785044320663074648751070889762632529492247186289930722004096729603532059375353061276690876276783169593644512376436876909659950214937790545989434998150826286174585276667626216535826695971406781146628238346661956271523757831409587338822750840700933713499185565013495268881671025609294885349682550835098176632583981059071862447590263001628536460312008069722229702268018042633884533267066979407331806759020633494873768893009566148946486824300908388737202733738381853607148743056193894934627807537680596993900959120084955002184147512132260245690473026154993968148026866172396113925927121440935046562004821850978434909059983715550871607864062913293286059042134437631369452367237923270491358435811389836623872
noncomputable def tgL6 : Nat := 113651330917721117756295878916840251609041015449397287664896063328208642662014722244346980977580191138534136619430724161330021612960684667469080829548275050956780113698576602127976223138432973424654784421719991778806774589903071301571813065227285216875410211317058388229357824932806577732814570363606200048251569000400567494270911560525749617070753064005911687450664959422117980710468333310640735355005649224068094430872590194580276966974900169973075911128847232557155838432807132178776161735456292761253361779958091821536772056073872967920563466488154962437961551103291277593296867246377885545431309811171795780452976062492742874252511056797050434971245930645323541184157417533630690354493980849310130299143671654522209981815468205328366792031046978024983634868210102037218518025177426858186420150185600371152322383158127023414492399473469113553391363098352539697015655272534735888537830813706876850793593003307623206725513202513562993479080858006119914608926117417216852013912855229377735175626061673063664079506752798123641601377524907692024777488264734457065895366187377715827173129686706941511947228186307979858702363969863847877561060731870253699283204334887872273028216998679103506387718603831300746548915236668475458153919541484381354288712498814835458637023599168564586469974485316444483493907665122532559667024554312649749243633294085948831106664759810500876174203589208702860518150337177376679317878226290174987246772785981995900400765015347718511896341997845747692145015670289592959942968848658740746174390619333728966873167373412653165190364547006232183226662843565769889114274896982871030591603268198366645019955400316393915700958525265769480685290389745870594714266839403275862942340041015056221981170610037613390344979066280734923448868808776046138668621222878426631314490833064026403826390884966956791409656641515863535660291125929576926365890483397641427227358593966675175450769726178570755309735810277982572900048023480816179276339677957559044327040318148570033166113740357921205270979333762229659239202495255746580323189669130013864860760486127703550238017351251132715897917540105555775554597433127390666052421340056495379033284809041677706153064227836076719585188956853152981089106821027262530846770560276082210812525482946247380151605734998354709924669123605217640533571812287209014550622487480607674510092341243433666745490646284080854336690937212788939337721450347818410004681163120999281148573953569010212514263851208695623816822839050484425275736171988453976177575635440439813027617977798589745649395894455071420446695490766270372377107840089935777694466004160134241662676886060760243281432949523398283454547274261748500366628341176923293533033715658994791956540306948555586135018854959018536384172344998523149954774065550679332477053079033631065806409524650291457653185760750889464874718265573645518476120017159709240675550372054071595231938770850823190857173975619980592623277505171349970083323450348223210835792460700489798045479478753359804680242168948746918259802999957016797629422697993729566721662874969789260989240549117875012493997579145570357090818445424838831519011002197857351663661697303758786794801182309225631443965679872068864026539364599053616392775881360585303846745220548093726444318187605736813339820829943942921819284290258414648930128564834465151596174295921750015717456235456145069837503211671191227487530475057463368335845168656737043775723542658566994360706955808477693854222770657871114323887634055206646735217010948200319139366830238551872512598195946183158826041390425853113903977844212825870445819946975396660911625476047393302593160698528053034580048600009630439809927324933252975041407939553132528605263902516770453333021742175196576303129044083451449838119328378150211501590707084085720053646685751344486566152675864656194680137399056178335235046491121802643912021667384470318519439463396348814918830333894445486512867764948998322147007776954547308051238113336984337627250908076807874066609332075130409685120252009839642064606352574297755005604066971324550494333948176178208773709763824202251713432340312603689713285855536900082791267457141324092752412603572011457158157782055509222152575092696025481012349202254637870559224124531758698846162735833784071585032433366996124426370758011164565587724376285681974433934483185890066976591751096264707059303818877467882047592835245698971017747138568296389349186230818136174078690385778289088130414960058972024393942372564175853591818526295814646544216526468812421572802763329682696177175324635510829599368721292223502406848576838242961893553526365356738287806133106630868281377522891219643082568078118673867785375956943670967865398711100420105898307960554977139615398463975939306940963141611079716809876745115777564930626523236096258868577055277340773266177925148013896194572917585937277852899932352077255605615613039108628268944323289991067429929585763051692045155984860472228775175594363741175526693032823064513744175780712036692047414180663272980828909597827656551508384637044968973836585470433544754657151216820920016482372540783570632037275214981952146135736217492686077878300989240871288449038699589059323907020619591837573331894361483979577335485115829261040711996969051431157860614162492251017291987252565640246417435131125937384292672218643912426176970870465790726697520494874888476196205524756233453397054482935441165816222006428372886397784620519839399851282286583073170188010518847584248951262079734537707158935062593198353972160282818185741498632223043043327734461484309715972152983676510852549819349052055238647350039216793821765363870768074677304703337198549813592444117265261782660976153088253475133892248996049647162173890802655050501481299235698286766790159658544693858165981940876891414426110500098617345547610884537449494745288921800610652275989627030625905575033208808839163114932429309069215646062153505337202105000763575531787238385850383535155315344287957824921905506263012391009661690609758414269210047420635163546201756652246525386914291432663466190569927418937866648432652454493804100420811123707143743357048017107282632159674823040040960
noncomputable def tgL7 : Nat := 65164792541305751882151569315750443806637409432545009469832861564790748992761391486561218838818527767944443711397858519111985858933736719055794576528957992283369314368276733707326553223675181299553974883309503530006007019535087414879007989498815278541210531976374963662757312593241167182141510702208537019372939168630276308898170608984616206569360544041338947316313523752043503192276136071440877436221275376663126533229624149102266780626507975051053356129525388392848100705150313079444185594451874269350929157300200970974890247379666633477607339872754693693541349041097700361766273438955798472093184029732815480621891126926524371146095227802578343815799587507112481733210341246729068932435023635381526262866304273417975127654382678653069963694629897674915345983153757382001234428294513522754677942282490186557050959668428879208217187598823175792239159043763788436398837152715403511083690696824103016619129356914532261243509811312619069378711765521034549815158093146995299887949022593266271995027963979144272784809548069652512536943933412657513460361299701545348354702549615279519473671690392525627266653680218906127007118398818208992355629851253664964896822691959149830883807707861482601730668140705460359998262404483969669896488535249092488133009443847105032901641289907055558931035026183485582733342047273881273799760622143528624697893680688029436418858672003292991774430015460057991284285211123056505128559982539270586594602302789762582471312665204249440719187474065014880396139505296944872522190285201326484948431843590788742085397297259957034776757178202969481733313050629864591733621128441811789480259308728563873834540928608588143983618623564194108223287397033453834404639281775618679119071772782333799413375582849048213566725893663844316936858319849434203662308778538544064327075078495109098173379038034591395356459993513249343418355462471284508803415441030632512297086833070843169175948527702461520970311378545632798294097268875454352623380462253324533304319836611766528367351982727101616157740944146414652087106861649580786162297822948499932498763843883113951830827524011108295530869325035177388082630525399435122184516651195961483668998586394321967662333587526063699833818545411800552056224815702648389215325546908259670563143590318700313787242858887191685585268646737368111514835266393164587925161102060534569228073564392066667223825482386176872184114835927766052802873330456327789964245656266608002446371222408794748301181424123448801507033220441952380104529623942538635709062339164435642032202689348385508774845511090520516495013319164579395176452069224289455387088539841953951388249544407584275637509319982604892171852707681081106723949663755671791425802016998348269026414926229119980875208663956389239713170504296491626518390147984347247783767675358758490865153483608533404057220594862353250129448545347366565782067443800652853512655065847318721393087298449156412689587842733214662125605292195709261349171158293590970465405378652709193587098157125028388995963315081277288036467213468762303459618938745803231510868923320134630536023743096597392126438457808626085656874484961376524153072000802868476865698273567035084728081218872133621763296906170003192506986523790813014036343470822877958309954568789332538237017922073362772470093930847284577462467415991707316705969164779293675494092374356156401289602484364934162348421696455031290300318236449657889703930987577509430920788869139647147312616061288281724430808448310655562688750954597325058148443984067886220746322970335964814789418265567495621380780897626272534723841975719565113951724723713191511751616196246820686301909874009741514373501452678667319811473712566544411626041656022421991499998044357690292912937809815686761798144745501480688355960402461865742602181419602457544399432087928387240705131070988912916523884983781526076731092702782957778576049780412132856523283839327687062993247309756280705229081071082297936575651149873069375877718465409070050604989314059757895341570672352124647362512148424617830416749055357056767194192385990587425703865639374876083716634660279899115978340947813014937146957059239840875750235345066165793167776199341384400113483445602220071168645318257025169855893148001056826747314891590607462178477522720691573474683282486023093729161888128257430350724966154594882839615389788854431884221524573528096026904913277182707585627964407837104215965282738102388120514960815136004261887983086148053202139894851066938244197837016879780237152626820634657050760593503773460976231320577708283596440445825866607868881525933505561800437162345567656717335094794912650934125509447105234270692450222751258446927597915095464524390206855357708324306597323150813435035442219044308610379881554510068916594013239552850679205843146928784146305983244835495066109892940548990536997732108255327342000929402414054917966652279071748726240175590926074602731526786016501178852789077862466262449649828351505550243249016043934051537969135530883025331578918026634636856024733580132427203050423045080513349658899665278971171803304797897086803762295727597047143179096751759879744300970113152302843876803953118871400474661507277124333205373780140843141290659738654814770389105503604835745494340645710566530914505902539301572986587180754661848999191387625760308085437049904303462657493565578677339528841703913662038639409789402157164914851550963712986475180700238314298898324071164798058423472744756008658088570441789259715892400308848734976082501087112243216919600839311219351401519743570017373618049206491554847653850460566588688217172495997529054425331518714804405743456953262618460963164087904311503687762508733754009675615632517210927561064415314856651155960871919048603693760502845662624115582755790899237666193499054634997897703520807848312917904724974361473707080508420577190287881745528071557943541295512787695166939961761416181432398680116490939237971178213070091835435449585861966141157865127482743926082480346561116729811667590870814676838639050026259809558734697954796012525419912215900186071436703081656011488904424286438236295101226569314564244665979190488973886798765827760565181206933326699612883887195206308723814280708637490756770415201810690058326327246467993427709356954959106631794688
noncomputable def tgL8 : Nat := 37363840376191219222106100011739543844843532722421535403565007686437828706646079432431330266070947771680435086840289363416592036001039167729749648205219839469207623696670541327157738187227703350522127732874418156411100959803590376796780631441250081054725940347281628574162916521411079693032688065146386510031102609731557639233181111649082183698301935407530289305568809868225987406642428210714076505741833067438811614130379816699867801532892688279179372015841533234081850991048856476511863843680112890787269812003539661118082582960558731593316993760589638981166140679208990008113690408082934780779835460219912729932468587920006634941209881745112754311997211733789136765180147679360088447314025465447095436883516664015512837722388358191822926790320284827626295877216793420172714307483142496733800383917606114942734855567862449987079438042890086039018142483560764572952002985468132732502157565519476938996597105435940387146792926625206444199608278264784431220077486736250358121570645867227207039779933579771621659324259901645467377567426881920318723503279393289507786234009891842164268780426604562043269533732094398962602017187058061937935112124481038718914270246022636973021152773802422243345725137333702327817195694286686638986998233614603242323413847763252568865980632739369830191588542146808712560541360335479794013824737697439829614080373025780484160350104315395352759257077213014119380754011146031934561919405119244374747031884863118512392283586424662600042319316730007777385863926884067854721577793745804768815914042539023738832219102136508187549325315358577302483343058675602447085930044529232708965887215525322065081875942825222503175868915633909175852060074109380685560930646955037678624242879176777870074931520023630402449024036376132867206188029741803882565116849259396192265973717961274661807113813642299485517582393170478701848110578618652453575449725966080766162866143260251268093750259019254406653727121898741507112210671898684290948453261423258142887050668058570040931203854383431497752789163217122292310972113726283418694408750376449409552542999531768747120222993074641188557169171172932272129177941568161125135424937287194351206565668270530560718143419101205167364059301840470123220753499210424354883232949552733706676227872155876963357796470307552610115410522516537511859313403650100473215664905316070038155688202068851769685978499466372701808826064801773547308986283550889738947201026993719882461362888968464706092070470946554592680666907763587969830902102111738718891389528479095480880403216066444194941237261879029580053909544514915643181595655386524851167907044571750822084165881766333557493098723680596481348902982148879703289033210104910594360349044620428935708854102833818946555621200778524472165277474243218380700795958152470684316710176856802257531224110922754638993045432152608426173339592625641383150511050296097985811451057358667405168573955595977758671981899190950022806560603390676490812072819873165308698292537148288253625355677012061597494774125975518374452633324140084278619346537307643223412259190663982962023296800472988365699957709481654883720902086551502912515441502365185226512581511449818251525319745013850572165797470972681349397320004740766227781389498686516208000243457238000098689937882113690006670454795885928685547272501370352395578731509750696635927905203126115385755914913867588504243828109200417198602500696121965177791354513494821045525627344366132785417941286164158739512841977438932074992752407265317649806099946670738493661200504916495105857410458864701298818653841601365862724949611779346408769330181765001377381884158488547049583587152869645534336924852636519263293315716415914194042879045021019882070253545646602864582999300178865693205707937487978034620077757284953649136056956863286058617508973635146992532255882808823918919897401868587822827802273641659511250174979970818598311635053107938766693427541593800048942141850151562689164667561345929109095568596005911336153803565320741434135520376602671317071454391985285425092473129258040108264632644832020260708417485828484002395499542448203510553313048808962009101124490090945137217016327946814914147034100389006276943600374440741944245376989290088789988020936860409962528951191795149921732499280832359700803395792069281775858964624990023220827289537983356525910625486249773215776918499792427540064454548211563839453575680126377937990599152638746803610860501684534137571484400138429565823171546506080178666762887988384174545597930564047445378907295026677728496801842556246330057820259422071211033924938321881519747087353807993482036538211211374927648128583052681360665522478246334997039707426405366661283176823041992086532025337077000241965980813039306134037339538126595338554113821151555823693487430945574564035471309047158520969690691423050045190325005810083231650411918260187847362166352189523044674617111813720091051553568254092952703246577684428809664193114452281028702918729228586664008912773601778084339500505644883289131703574169352565596099591446710024280907371538908165002460517867467613248947127299296457189185267289635393215403545201523777724893209208761602542281973113923432623421872081725586751434397063470063158860030725223209356007073475558153157798687868347911661318121062951957604646426338060126927990980741107013549789151121419344856984084025126913576058950972492062251213476974479929779215355575092350040111037974420962645811098312466083299632337244646264304675399566303664707829684621044299482374573110363970284727082567397245403700712823997259036392810503732624911245301622684599495338368395129232635627296056830778339787148848362140698783473025775310282887629771032780426409324651544120143772871953223091088878182300822183893297190553967609215088408642464243294112033125773231889984347679265654335453268750072052040678357347226295623895455893794783908234621591903399407376662243824874682139425463407481789875106053174278657706355786484400286635959705922078635294424747242310055038623148386351592110440173709417664166889058382952294653901864826622742841487067069452188824861176420444060637105690071451579998247697997102359914737327435874680423189769927018242517770468601551828073632188478548489527025864348069585546076059639267017889507733693367857645107269768444733136132834532617134480965354261529996578204999008366407104178190894394569188704256
noncomputable def tgL9 : Nat := 21423479047717128545475695257662086010465834567961892782151490400261395631844356770061883252925941077073113065162504350059046778204055560428507361219323431155018601069546162793188439741790165181525186897780666502377524751838290546916417499340692076233429978525494072540061871033435307421846045247922630283962778604295298540774331152352039356947462022865596127817820737448605766726170085722720705145569058302671170074774821033296203549416149985860989482530507732781263840140040295435800492052425435888696421300757240129124057231534232087977041977605873270776007817365448605305646241091611349428670260765643492161440711425629225349692409005830546697362846444425385092690390031996414379066433773591295697556848871469016344960068929096515249326653994124481520927455054667478271802102462259277260719391170398177385256051949482853388012126526693291848657008720850408210369085475386421034540497243647947822382197660516654833754937308120491499684514342523887330963201859867371349830239647698038486380767784746760216360029358724125268904851196024012735380216545420772459286785997022346748133002276799839443942922146504805384311854337464910643406274367766286104357420138909832834017976396470341362674882815263645540977389369904976285232132452950598220435076972214822644418964578786063418203408245397304165375632827776657043251560693820354578333499057262734813677842361017810330769359124298354915166266408736094922786006693322268682524130178387179051196695548376582047624408329196892274695943638689877185214088434690239734045784550291751601553337962106159502040975886488091144947909748472368971620565978875448371186479583852787891861865695711056933174647710034222958759852092232634410576032847259759931288422465749440263779477019774033954464967061237063606166134548783479451066096677252105191823568875971109777640994295794262499703743778871275430369321036581651355476208411323716638495175344630556425457733484473397507205558907473214068220967023162645343414888540938598604225054354165096333625391894815531353687009889457411145761216888323211774138772148442490518049714170116209943821909521416809101451031563494659476610865210130956629917308092037683024302186357576424577872540046861653933401622861350647737660630740720051685895749704214211449596544033586064699502382696263028853354218266960947536388121493481634664461998668766570607993203306870625066070759213252752330520456826927004508504917796162472417675241193638002449211473096655471215713303551714128369458147584393945924714144822735657388871386226596449171613461478267875004611167125472512645374788848570138291643594648332913410359550170148763456449678287183815731074778463777716607368033585170003112227399993199203804397035750909423072456141235598520304005408894148825727742843306159472564163479187692278169061623142361158736659436764597208925638493589988948590899397778766508294803648969688653099078312237511210632800281343166494517068499773220931879720370159577138377162576434850522540882258820696341719476271601169231610345398094246792839340475558731366757756487961847288955893139664134681376360222812204530107355122181079713075898503925763567167420773429521150627558193297130087514177242185186055011061606479824539151648918209066258024542420475950511734068597124252432464137812359897821761789275410739999677290179041559708999586756690404893455156637554073596491602191196333996957960609848485424286705724644749974677676139059778819852775582038701482634608581315243241611292806953435382596937714130019593671591607010300071021657766965240427042596794734279006478521265496320668301335668799163325030146397108558061650705258726477867281419580023154000090839459958505225513168503314416556449702999520023436151298216331345643988679208145435128114097694024815560595549935960800383087672684118273445575418242462548520778748543256722684427054098446110286826219739453042291036986283841502169792241339287678563789544769756932930360211069981994907702146551741742959870951838442958250096201910278301562773196357063244883813961313651868867247463981700529821115213531296975670460486255690729872906513745342993264856375136854674790035601780190142184557475546485734566732379002704313009339823380296562495463763772672797262657371829167657725103549477263920284826500280618425855134760730826647189555026248273405951223294019731571706212656294626072783122265732898389110655749370057639152235429483088063663831923768990629754539544842616777457038298485099404510473093278453874602461688169016714995312868700527439304191769223456883420778804305245492935699813617869744248160935174944326023163359322572688953446242769042483398124604453919246678427277075846689810528309874770069865459372179985252450321746800241171481668771595905309153557354421313011897055729921695668390416247391433991325177658607261228169949600734448025090648818128550669500001463987006138221700593410093140739429955382710457303169638389021449914495878317421383594914648669572026128996747111127173751508532945580924013697959006155229844560187340890152221981751274257512072417364028534427576501724642715408517699000937171560074202921050499827032853474794148940096355922521469968968137186489183838846152145741317681153339066181719324987041143772122219503997551462278243692808243629962084059131775686784576496753401495173964332902899949115393195483104807753596723892869187133923776280904235025039561929348967899025009995471885648915849296490480148756713544684073701474112149216961014476501753058376343969641780935036245780279775320241640927728703906960192233646769795214808558109298494180287300599685638447492622988022160304195768284180727428202507448840599776539644127477203593426668515328449676987362734419932260691912396277659519906162689989379355748788894231719178757707822239735919714633413456903576902374476609450974562816527390798911459606149076542893632592230990389929994720599389403587422661222293843771130824986388793294672243037960417101141499135042924224739772643572846458073667274392449024619855517650780795397743715993953953543977087644645402940093311140003725080006570292841353295629121535493447924452982800415880305817161562397652451064829286745247689338684048314325439665440497353633360157748745949546735500988868283157515770770487894364326155798775536483069065887303587324368087427161127917506141186090611468293672627615089805734865624262028313159010271925087689184018471347738732166066855581268791757055887890643482473566792393324223238388142672528034402778944850953764864
noncomputable def bk (n : Nat) (x : Nat → Int) (k : Nat) (c : Int) : Int := bif Nat.blt k n then c + x k else c
noncomputable def pt (n : Nat) (x : Nat → Int) (k : Nat) (c : Int) : Int := 1 + bk n x k c % Int.ofNat (7 + 1)
structure Nine where
  a : Int
  b : Int
  c : Int
  d : Int
  e : Int
  f : Int
  g : Int
  h : Int
  i : Int
noncomputable def Nine.S (p : Nine) : Int := 0 + p.a + p.b + p.c + p.d + p.e + p.f + p.g + p.h + p.i
noncomputable def Nine.fit (p : Nine) : List Prop := [inR p.a ∧ inR (0 + p.a), inR p.b ∧ inR (0 + p.a + p.b), inR p.c ∧ inR (0 + p.a + p.b + p.c), inR p.d ∧ inR (0 + p.a + p.b + p.c + p.d), inR p.e ∧ inR (0 + p.a + p.b + p.c + p.d + p.e),
  inR p.f ∧ inR (0 + p.a + p.b + p.c + p.d + p.e + p.f), inR p.g ∧ inR (0 + p.a + p.b + p.c + p.d + p.e + p.f + p.g), inR p.h ∧ inR (0 + p.a + p.b + p.c + p.d + p.e + p.f + p.g + p.h), inR p.i ∧ inR (0 + p.a + p.b + p.c + p.d + p.e + p.f + p.g + p.h + p.i)]
noncomputable def nineOf (n : Nat) (x : Nat → Int) : Nine := ⟨pt n x 0 7, pt n x 1 12, pt n x 2 3, pt n x 3 9, pt n x 4 4, pt n x 5 14, pt n x 6 2, pt n x 7 0, pt n x 8 5⟩
noncomputable def Nine.half (p : Nine) : Int := Z.divQ p.S 2 % Int.ofNat (2 + 1)
noncomputable def Nine.times (p : Nine) : Int := 1 + p.S % Int.ofNat (1 + 1)
noncomputable def itF (vs : Array Value) (ep : Nat) (x : Nat → Int) (u : Nat → Nat) (k : Nat) : Prop := (0 : Int) ≤ .ofNat k ∧ Int.ofNat k < 9223372036854775808 ∧ itemOf (some (scriptO vs ep)) (Int.ofNat k).toNat = some (.int (x k) (u k))
noncomputable def endsO (t : Nat) : Obj := { cls := .type "list", data := .seq ⟨[.str ⟨⟨[10]⟩⟩ t, .str ⟨⟨[13]⟩⟩ (t + 1), .str ⟨⟨[13, 10]⟩⟩ (t + 2)]⟩ }
noncomputable def endF (p : Nine) (t : Nat) (e : Str) (te : Nat) : Prop := 0 ≤ p.half ∧ p.half < 9223372036854775808 ∧ itemOf (some (endsO t)) p.half.toNat = some (.str e te)
noncomputable def okA : List (Nat × Obj) → Prop
  | [] => True
  | (t, o) :: l => (t ≠ 0 ∧ some o = some o) ∧ okA l
noncomputable def lA : List (Nat × Obj) → List (Nat × Obj)
  | [] => []
  | (j, o) :: l => (2 * j + 1, o) :: lA l
noncomputable def aA (ad : Nat → Addr) : List (Nat × Obj) → List (Addr × Obj)
  | [] => []
  | (j, o) :: l => (ad j, o) :: aA ad l
noncomputable def tbD (a b c : Int) : Dt := .tab [(sgn 114, a), (sgn 103, b), (sgn 98, c)]
noncomputable def Gvn.D (z : Gvn) (j k : Nat) : Dt := tbD (z.y j (3 * k)) (z.y j (3 * k + 1)) (z.y j (3 * k + 2))
noncomputable def modsF (ad : Nat → Addr) : List Nat → Prop
  | [] => True
  | j :: l => ad j ≠ sysModules ∧ modsF ad l
noncomputable def cmpF (ad : Nat → Addr) (ds : List Dt) (db : Dt) (l r : List Nat) : Prop := Dt.list ds = db ∧ modsF ad l ∧ modsF ad r
noncomputable def Nine.t0 (p : Nine) (k : Int) : Dt := tbD (p.a + k) (p.b + k) (p.c + k)
noncomputable def Nine.t1 (p : Nine) (k : Int) : Dt := tbD (p.d + k) (p.e + k) (p.f + k)
noncomputable def Nine.t2 (p : Nine) (k : Int) : Dt := tbD (p.g + k) (p.h + k) (p.i + k)
/-- a call that is given: where its objects start, the function, what it is handed -/
structure Cl where
  m : Nat
  f : Nat
  l : List (Nat × Obj)
  vs : List Value
  i : Nat
noncomputable def Gvn.rows (z : Gvn) (a b : Nat) (i j k l : Nat) : List (Nat × Obj) := [(a, z.tab i j), (b, z.tab k l)]
/-- a text's hash in this world -/
noncomputable def hs (P : Params) (c : Nat) : Int := ZFast.zw12210062019545310541 (P.strHash ⟨[c]⟩)
/-- the law's own tables -/
noncomputable def bareT (P : Params) (t₀ n : Nat) (a b c : Int) (k : Nat) : Obj := dct3 a b c (hs P 114) (hs P 103) (hs P 98) (t₀ + (103 + 28 * k + 3 * n)) (t₀ + (20 + 15 * k + 3 * n)) (t₀ + (111 + 28 * k + 3 * n)) (t₀ + (25 + 15 * k + 3 * n)) (t₀ + (119 + 28 * k + 3 * n)) (t₀ + (30 + 15 * k + 3 * n))
/-- the calls of the law -/
noncomputable def callsL (P : Params) (z : Gvn) (ad : Nat → Addr) (t₀ n : Nat) (p : Nine) (e : Str) (te : Nat) : Nat → Cl
  | 0 => ⟨55, 98, [(29, refs3 3 (ad 34) (ad 40) (ad 46)), (34, bareT P t₀ n p.a p.b p.c 0), (40, bareT P t₀ n p.d p.e p.f 1), (46, bareT P t₀ n p.g p.h p.i 2)], [.ref (ad 29), .int p.times (t₀ + (74 + 3 * n)), .str e te], 189 + 3 * n⟩
  | 1 => ⟨141, 88, z.rows 87 97 0 0 0 1, [.ref (ad 87), .ref (ad 97), .int 0 (t₀ + (185 + 3 * n))], z.ι 0 + 58⟩
  | 2 => ⟨290, 93, z.rows 87 97 0 0 0 1, [.ref (ad 87), .ref (ad 97)], z.ι 1 + 3⟩
  | 3 => ⟨388, 88, z.rows 280 107 1 1 0 2, [.ref (ad 280), .ref (ad 107), .int 0 (t₀ + (185 + 3 * n))], z.ι 2 + 8⟩
  | 4 => ⟨537, 93, z.rows 280 107 1 1 0 2, [.ref (ad 280), .ref (ad 107)], z.ι 3 + 3⟩
  | 5 => ⟨635, 88, z.rows 275 522 1 0 3 0, [.ref (ad 275), .ref (ad 522), .int 0 (t₀ + (185 + 3 * n))], z.ι 4 + 8⟩
  | 6 => ⟨784, 93, z.rows 275 522 1 0 3 0, [.ref (ad 275), .ref (ad 522)], z.ι 5 + 3⟩
  | 7 => ⟨888, 88, [(40, bareT P t₀ n p.d p.e p.f 1), (46, bareT P t₀ n p.g p.h p.i 2)], [.ref (ad 40), .ref (ad 46), .int 1 (t₀ + (z.ι 6 + 6))], z.ι 6 + 19⟩
  | 8 => ⟨1022, 93, [(40, bareT P t₀ n p.d p.e p.f 1), (46, bareT P t₀ n p.g p.h p.i 2)], [.ref (ad 40), .ref (ad 46)], z.ι 7 + 3⟩
  | 9 => ⟨1120, 88, [(34, bareT P t₀ n p.a p.b p.c 0), (1007, z.tab 7 0)], [.ref (ad 34), .ref (ad 1007), .int 1 (t₀ + (z.ι 6 + 6))], z.ι 8 + 8⟩
  | 10 => ⟨1254, 93, [(34, bareT P t₀ n p.a p.b p.c 0), (1007, z.tab 7 0)], [.ref (ad 34), .ref (ad 1007)], z.ι 9 + 3⟩
  | 11 => ⟨1352, 88, z.rows 1244 1012 9 1 7 1, [.ref (ad 1244), .ref (ad 1012), .int 1 (t₀ + (z.ι 6 + 6))], z.ι 10 + 8⟩
  | 12 => ⟨1486, 93, z.rows 1244 1012 9 1 7 1, [.ref (ad 1244), .ref (ad 1012)], z.ι 11 + 3⟩
  | _ => ⟨1586, 98, [(1583, refs3 0 (ad 1239) (ad 1471) (ad 1476)), (1239, z.tab 9 0), (1471, z.tab 11 0), (1476, z.tab 11 1)], [.ref (ad 1583), .int p.times (t₀ + (74 + 3 * n)), .str e te], z.ι 12 + 6⟩
/-- what comes back of them: value, count, objects -/
structure Bk where
  v : Value
  mm : Nat
  objs : List (Nat × Obj)
noncomputable def backS (z : Gvn) (ad : Nat → Addr) (j m : Nat) : Bk := ⟨.ref (ad (m + 27)), 61, [(27, refs3 3 (ad (m + 32)) (ad (m + 42)) (ad (m + 52))), (32, z.tab j 0), (42, z.tab j 1), (52, z.tab j 2)]⟩
noncomputable def backT (z : Gvn) (ad : Nat → Addr) (j m mm a b c : Nat) : Bk := ⟨.ref (ad (m + c)), mm, [(c, threeV ad (m + a) (m + b) (z.y j 6) (z.v j 12)), (a, z.tab j 0), (b, z.tab j 1)]⟩
noncomputable def backL (z : Gvn) (ad : Nat → Addr) : Nat → Bk
  | 0 => backS z ad 0 55
  | 1 => backT z ad 1 141 149 134 139 148
  | 2 => backT z ad 2 290 97 86 92 96
  | 3 => backT z ad 3 388 149 134 139 148
  | 4 => backT z ad 4 537 97 86 92 96
  | 5 => backT z ad 5 635 149 134 139 148
  | 6 => backT z ad 6 784 97 86 92 96
  | 7 => backT z ad 7 888 134 119 124 133
  | 8 => backT z ad 8 1022 97 86 92 96
  | 9 => backT z ad 9 1120 134 119 124 133
  | 10 => backT z ad 10 1254 97 86 92 96
  | 11 => backT z ad 11 1352 134 119 124 133
  | 12 => backT z ad 12 1486 97 86 92 96
  | _ => backS z ad 13 1586
noncomputable def orcOf (c : Cl) (b : Bk) (ι : Nat) : Orc := .given (lA c.l) b.v ι b.mm b.objs
noncomputable def orcL (P : Params) (z : Gvn) (ad : Nat → Addr) (t₀ n : Nat) (p : Nine) (e : Str) (te : Nat) (j : Nat) : Orc := orcOf (callsL P z ad t₀ n p e te j) (backL z ad j) (z.ι j)
noncomputable def gvF (G : Giv) (b : Bool) (P : Params) (prog : Program) (ad : Nat → Addr) (t₀ : Nat) (c : Cl) (r : Bk) (ι : Nat) : Prop :=
  okA (lA c.l) ∧ G (fun n => ad (c.m + n)) ⟨prog, parB b P⟩ t₀ (aA ad c.l) (.call (.ref c.f) ⟨c.vs, []⟩) c.i r.v ι r.mm r.objs
noncomputable def factsL (G : Giv) (b : Bool) (P : Params) (prog : Program) (ad : Nat → Addr) (t₀ n : Nat) (z : Gvn) (p : Nine) (e : Str) (te : Nat) : List Prop :=
  let g := fun j => gvF G b P prog ad t₀ (callsL P z ad t₀ n p e te j) (backL z ad j) (z.ι j)
  let two := fun j l r => cmpF ad [z.D j 0, z.D j 1, .int (z.y j 6)] (.list [z.D (j + 1) 0, z.D (j + 1) 1, .int (z.y (j + 1) 6)]) l r
  [mulF 0, mulF 0, mulF 0, mulF 1, mulF 1, mulF 1, mulF 2, mulF 2, mulF 2,
   g 0, cmpF ad [z.D 0 0, z.D 0 1, z.D 0 2] (.list [p.t0 p.times, p.t1 p.times, p.t2 p.times]) [82, 87, 97, 107] [117, 121, 126, 131],
   g 1, g 2, two 1 [289, 275, 280] [386, 376, 382], g 3, g 4, two 3 [536, 522, 527] [633, 623, 629], g 5, g 6, two 5 [783, 769, 774] [880, 870, 876],
   g 7, g 8, two 7 [1021, 1007, 1012] [1118, 1108, 1114], g 9, g 10, two 9 [1253, 1239, 1244] [1350, 1340, 1346], g 11, g 12, two 11 [1485, 1471, 1476] [1582, 1572, 1578],
   g 13, cmpF ad [z.D 5 0, z.D 5 1, z.D 3 1] (.list [z.D 13 0, z.D 13 1, z.D 13 2]) [881, 769, 774, 527] [1613, 1618, 1628, 1638]]
noncomputable def evL (kt : Params → KT) (b : Bool) (P : Params) (prog : Program) (ad : Nat → Addr) (a : Addr) (vs : Array Value) (ep t₀ : Nat) : Ev := ⟨ad, gapL, (kt (parB b P)).get, arg1 (a + 2) (scriptO vs ep), ⟨prog, parB b P⟩, t₀, 310, false⟩
noncomputable def valsO (x : Nat → Int) (u : Nat → Nat) : Nat → Nat → List Orc → List Orc
  | _, 0, l => l
  | k, n + 1, l => .val (.int (x k) (u k)) :: valsO x u (k + 1) n l
noncomputable def itFs (vs : Array Value) (ep : Nat) (x : Nat → Int) (u : Nat → Nat) : Nat → Nat → List Prop → List Prop
  | _, 0, l => l
  | k, n + 1, l => itF vs ep x u k :: itFs vs ep x u (k + 1) n l
noncomputable def LaRw (kt : Params → KT) (n tg : Nat) (b : Bool) : Prop := ∀ (P : Params) (prog : Program) (G : Giv) (ad : Nat → Addr) (a : Addr) (vs : Array Value) (ep t₀ : Nat) (L : Int) (x : Nat → Int) (u : Nat → Nat) (e : Str) (te : Nat) (z : Gvn),
  end2 [] (runC (hkG jsL 600 G) (evL kt b P prog ad a vs ep t₀) 20000 (.call (.ref 103) ⟨[.ref (a + 2)], []⟩)
    (.int L :: .int (.ofNat n) :: valsO x u 0 n [.item (.str e te), orcL P z ad t₀ n (nineOf n x) e te 0, orcL P z ad t₀ n (nineOf n x) e te 1, orcL P z ad t₀ n (nineOf n x) e te 2, orcL P z ad t₀ n (nineOf n x) e te 3, orcL P z ad t₀ n (nineOf n x) e te 4, orcL P z ad t₀ n (nineOf n x) e te 5, orcL P z ad t₀ n (nineOf n x) e te 6, orcL P z ad t₀ n (nineOf n x) e te 7, orcL P z ad t₀ n (nineOf n x) e te 8, orcL P z ad t₀ n (nineOf n x) e te 9, orcL P z ad t₀ n (nineOf n x) e te 10, orcL P z ad t₀ n (nineOf n x) e te 11, orcL P z ad t₀ n (nineOf n x) e te 12, orcL P z ad t₀ n (nineOf n x) e te 13]) tg) =
    some (andL True ((sizeOf (some (scriptO vs ep)) = some L ∧ L < 1000) :: mnF (.ofNat n) 9 L :: itFs vs ep x u 0 n ((nineOf n x).fit ++ ((nineOf n x).fit ++ endF (nineOf n x) (t₀ + (75 + 3 * n)) e te :: factsL G b P prog ad t₀ n z (nineOf n x) e te))),
      exps (evL kt b P prog ad a vs ep t₀) 2000 tg [], .ok (.ret (.bool true)), 1649, [])
noncomputable def LaR (kt : Params → KT) (n tg : Nat) : Prop := ∀ b, LaRw kt n tg b
end Mine
namespace Mine
open PySem PySem.W PySem.W.X
/-- f at lo + n, .. , lo + 1 -/
noncomputable def allTo : Nat → (Nat → Bool) → Bool
  | 0, _ => true
  | n + 1, f => match f (n + 1) with
    | true => allTo n f
    | false => false
theorem allTo_of : ∀ {n : Nat} {f : Nat → Bool}, allTo n f = true → ∀ k, 1 ≤ k → k ≤ n → f k = true
  | 0, f, _, k, h1, h2 => by omega
  | n + 1, f, h, k, h1, h2 => by
    have h' : (match f (n + 1) with | true => allTo n f | false => false) = true := h
    cases q : f (n + 1) with
    | false => rw [q] at h'; cases h'
    | true =>
      rw [q] at h'
      by_cases e : k = n + 1
      · rw [e]; exact q
      · exact allTo_of (n := n) h' k h1 (by omega)
/-- reckon once -/
noncomputable def fz (x : UInt64) (f : UInt64 → Bool) : Bool := match x.toNat with
  | 0 => f (.ofNat 0)
  | n + 1 => f (.ofNat (n + 1))
theorem fz_is (x : UInt64) (f : UInt64 → Bool) : fz x f = f x := by
  have h : UInt64.ofNat x.toNat = x := UInt64.ofNat_toNat
  unfold fz
  split
  · rename_i q; rw [q] at h; rw [h]
  · rename_i q; rw [q] at h; rw [h]
/-- an int in 64ths -/
noncomputable def F (x : Nat) : UInt64 := qdiv (Int.ofNat x) 64
noncomputable def lowF (h : UInt64) : Bool := Float64.cmp h halfF == some .lt || Float64.cmp h halfF == some .eq
noncomputable def mnF1 (h : UInt64) : UInt64 := bif betterF true h (fsub oneF h) then fsub oneF h else h
noncomputable def is (o : Option Int) (k : Nat) : Bool := match o with
  | some p => decide (p = Int.ofNat k)
  | none => false
/-- light, share: the end -/
noncomputable def endA (h s : UInt64) (m : Nat) : Bool := is (frnd (fmul (ofI 64) (fadd h (fmul s (mnF1 h))))) m
noncomputable def endA' (h s : UInt64) (m : Nat) : Bool := fz (fsub oneF h) fun o => fz (bif betterF true h o then o else h) fun n => fz (fmul s n) fun z => fz (fadd h z) fun y => fz (fmul (ofI 64) y) fun x => is (frnd x) m
theorem endA_is (h s : UInt64) (m : Nat) : endA' h s m = endA h s m := by
  unfold endA' endA mnF1
  simp only [fz_is]
/-- one int -/
noncomputable def chk1 (a : Nat) : Bool := fz (F a) fun A => !(Float64.isInf A) && (!(Float64.isZero A) && fz (Float64.div (fadd A A) two) fun h => endA' h 0 a)
/-- two ints, their order -/
noncomputable def chk2 (a b : Nat) : Bool := fz (F a) fun A => fz (F b) fun B => (betterF false A B == Nat.blt a b) && ((betterF true A B == Nat.blt b a) && (isEq A B == Nat.beq a b))
/-- the least n, the greatest n + d -/
noncomputable def chk3 (n d : Nat) : Bool := fz (F (n + d)) fun M => fz (F n) fun N => fz (fadd M N) fun S => fz (Float64.div S two) fun h => fz (fsub M N) fun D => !(Float64.isZero D) &&
  (match lowF h with
  | true => !(Float64.isZero S) && fz (Float64.div D S) fun s => endA' h s (n + d)
  | false => fz (fsub (fsub two M) N) fun Z => !(Float64.isZero Z) && fz (Float64.div D Z) fun s => endA' h s (n + d))
/-- a difference -/
noncomputable def chk4 (n d : Nat) : Bool := fsub (F (n + d)) (F n) == F d
noncomputable def rnd3 (h : UInt64) : Option Int := frnd (fmul (Float64.divmod (Float64.div h sixF) oneF).2 (ofI 3))
noncomputable def rnd3' (h : UInt64) (f : Option Int → Bool) : Bool := fz (Float64.div h sixF) fun x => fz (Float64.divmod x oneF).2 fun y => fz (fmul y (ofI 3)) fun z => f (frnd z)
theorem rnd3_is (h : UInt64) (f : Option Int → Bool) : rnd3' h f = f (rnd3 h) := by
  unfold rnd3' rnd3
  simp only [fz_is]
/-- which of the three a hue tells: k, or j where d is nought -/
noncomputable def tells (k j : Int) (z : Bool) (o : Option Int) : Bool := match o with
  | some p => decide (p % 3 = k) || (decide (p % 3 = j) && z)
  | none => false
/-- d of r -/
noncomputable def chk5 (r d : Nat) : Bool := fz (F r) fun R => fz (F d) fun D => fz (Float64.div D R) fun q =>
  (Float64.div R R == oneF) && (fz (fsub oneF q) (fun h => rnd3' h (tells 0 0 false)) && (fz (fsub q oneF) (fun h => rnd3' h (tells 0 2 (Nat.beq d 0))) &&
  (fz (fsub (fadd two oneF) q) (fun h => rnd3' h (tells 1 2 (Nat.beq d 0))) && (Nat.beq d 0 || (fz (fsub (fadd two q) oneF) (fun h => rnd3' h (tells 1 1 false)) &&
  (fz (fsub (fadd fourF q) oneF) (fun h => rnd3' h (tells 2 2 false)) && fz (fsub (fadd fourF oneF) q) (fun h => rnd3' h (tells 2 2 false))))))))
theorem t1 : allTo 54 chk1 = true := by decide +kernel
theorem t2 : allTo 54 (fun n => allTo 22 (fun d => chk2 n (n + d - 1) && chk2 (n + d - 1) n)) = true := by decide +kernel
theorem t3_0 : allTo 9 (fun n => allTo 21 (fun d => Nat.ble 55 (n + 0 + d) || chk3 (n + 0) d)) = true := by decide +kernel
theorem t3_1 : allTo 9 (fun n => allTo 21 (fun d => Nat.ble 55 (n + 9 + d) || chk3 (n + 9) d)) = true := by decide +kernel
theorem t3_2 : allTo 9 (fun n => allTo 21 (fun d => Nat.ble 55 (n + 18 + d) || chk3 (n + 18) d)) = true := by decide +kernel
theorem t3_3 : allTo 9 (fun n => allTo 21 (fun d => Nat.ble 55 (n + 27 + d) || chk3 (n + 27) d)) = true := by decide +kernel
theorem t3_4 : allTo 9 (fun n => allTo 21 (fun d => Nat.ble 55 (n + 36 + d) || chk3 (n + 36) d)) = true := by decide +kernel
theorem t3_5 : allTo 9 (fun n => allTo 21 (fun d => Nat.ble 55 (n + 45 + d) || chk3 (n + 45) d)) = true := by decide +kernel
theorem t4 : allTo 54 (fun n => allTo 22 (fun d => Nat.ble 56 (n + d) || chk4 n (d - 1))) = true := by decide +kernel
theorem t5_0 : allTo 7 (fun r => allTo 22 (fun d => Nat.blt (r + 0) (d - 1) || chk5 (r + 0) (d - 1))) = true := by decide +kernel
theorem t5_1 : allTo 7 (fun r => allTo 22 (fun d => Nat.blt (r + 7) (d - 1) || chk5 (r + 7) (d - 1))) = true := by decide +kernel
theorem t5_2 : allTo 7 (fun r => allTo 22 (fun d => Nat.blt (r + 14) (d - 1) || chk5 (r + 14) (d - 1))) = true := by decide +kernel
end Mine
namespace Mine
open PySem PySem.W PySem.W.X
theorem and2 {a b : Bool} (h : (a && b) = true) : a = true ∧ b = true := by cases a <;> cases b <;> simp_all
theorem not1 {a : Bool} (h : (!a) = true) : a = false := by cases a <;> simp_all
theorem is_of {o : Option Int} {k : Nat} (h : is o k = true) : o = some (Int.ofNat k) := by
  unfold is at h
  split at h
  · rw [of_decide_eq_true h]
  · cases h
theorem t3 (n : Nat) (h1 : 1 ≤ n) (h2 : n ≤ 54) : allTo 21 (fun d => Nat.ble 55 (n + d) || chk3 n d) = true := by
  have key : ∀ j, allTo 9 (fun n => allTo 21 (fun d => Nat.ble 55 (n + 9 * j + d) || chk3 (n + 9 * j) d)) = true → 9 * j + 1 ≤ n → n ≤ 9 * j + 9 → allTo 21 (fun d => Nat.ble 55 (n + d) || chk3 n d) = true := by
    intro j h h1 h2
    have z := allTo_of h (n - 9 * j) (by omega) (by omega)
    have e : n - 9 * j + 9 * j = n := by omega
    simp only [e] at z
    exact z
  by_cases a : n ≤ 9
  · exact key 0 t3_0 (by omega) (by omega)
  by_cases b : n ≤ 18
  · exact key 1 t3_1 (by omega) (by omega)
  by_cases c : n ≤ 27
  · exact key 2 t3_2 (by omega) (by omega)
  by_cases d : n ≤ 36
  · exact key 3 t3_3 (by omega) (by omega)
  by_cases e : n ≤ 45
  · exact key 4 t3_4 (by omega) (by omega)
  · exact key 5 t3_5 (by omega) (by omega)
theorem t5 (n : Nat) (h1 : 1 ≤ n) (h2 : n ≤ 21) : allTo 22 (fun d => Nat.blt n (d - 1) || chk5 n (d - 1)) = true := by
  have key : ∀ j, allTo 7 (fun n => allTo 22 (fun d => Nat.blt (n + 7 * j) (d - 1) || chk5 (n + 7 * j) (d - 1))) = true → 7 * j + 1 ≤ n → n ≤ 7 * j + 7 → allTo 22 (fun d => Nat.blt n (d - 1) || chk5 n (d - 1)) = true := by
    intro j h h1 h2
    have z := allTo_of h (n - 7 * j) (by omega) (by omega)
    have e : n - 7 * j + 7 * j = n := by omega
    simp only [e] at z
    exact z
  by_cases a : n ≤ 7
  · exact key 0 t5_0 (by omega) (by omega)
  by_cases b : n ≤ 14
  · exact key 1 t5_1 (by omega) (by omega)
  · exact key 2 t5_2 (by omega) (by omega)
theorem F1 {a : Nat} (h1 : 1 ≤ a) (h2 : a ≤ 54) : Float64.isInf (F a) = false ∧ Float64.isZero (F a) = false ∧ endA (Float64.div (fadd (F a) (F a)) two) 0 a = true := by
  have h := allTo_of t1 a h1 h2
  unfold chk1 at h
  simp only [fz_is, endA_is] at h
  obtain ⟨p, q⟩ := and2 h
  obtain ⟨q, r⟩ := and2 q
  exact ⟨not1 p, not1 q, r⟩
theorem blt_is (a b : Nat) : Nat.blt a b = decide (a < b) := by
  rw [Bool.eq_iff_iff, decide_eq_true_iff]
  exact ⟨fun h => Nat.le_of_ble_eq_true h, fun h => Nat.ble_eq_true_of_le h⟩
theorem F2 {a b : Nat} (h1 : 1 ≤ a) (h2 : 1 ≤ b) (ha : a ≤ 54) (hb : b ≤ 54) (h3 : a ≤ b + 21) (h4 : b ≤ a + 21) : betterF false (F a) (F b) = decide (a < b) ∧ betterF true (F a) (F b) = decide (b < a) ∧ isEq (F a) (F b) = decide (a = b) := by
  have key : chk2 a b = true := by
    rcases Nat.le_total a b with q | q
    · have h := allTo_of (allTo_of t2 a h1 ha) (b - a + 1) (by lia) (by lia)
      have e : a + (b - a + 1) - 1 = b := by lia
      rw [e] at h
      exact (and2 h).1
    · have h := allTo_of (allTo_of t2 b h2 hb) (a - b + 1) (by lia) (by lia)
      have e : b + (a - b + 1) - 1 = a := by lia
      rw [e] at h
      exact (and2 h).2
  unfold chk2 at key
  simp only [fz_is] at key
  obtain ⟨p, q⟩ := and2 key
  obtain ⟨q, r⟩ := and2 q
  refine ⟨?_, ?_, ?_⟩
  · rw [eq_of_beq p, blt_is]
  · rw [eq_of_beq q, blt_is]
  · rw [eq_of_beq r, Bool.eq_iff_iff, decide_eq_true_iff]
    exact ⟨Nat.eq_of_beq_eq_true, fun h => by rw [h]; exact Nat.beq_refl b⟩
theorem F3 {m n : Nat} (h1 : 1 ≤ n) (h2 : n < m) (h3 : m ≤ 54) (h4 : m ≤ n + 21) : Float64.isZero (fsub (F m) (F n)) = false ∧
    ((lowF (Float64.div (fadd (F m) (F n)) two) = true ∧ Float64.isZero (fadd (F m) (F n)) = false ∧ endA (Float64.div (fadd (F m) (F n)) two) (Float64.div (fsub (F m) (F n)) (fadd (F m) (F n))) m = true) ∨
    (lowF (Float64.div (fadd (F m) (F n)) two) = false ∧ Float64.isZero (fsub (fsub two (F m)) (F n)) = false ∧ endA (Float64.div (fadd (F m) (F n)) two) (Float64.div (fsub (F m) (F n)) (fsub (fsub two (F m)) (F n))) m = true)) := by
  have h := allTo_of (t3 n h1 (by lia)) (m - n) (by lia) (by lia)
  have e : n + (m - n) = m := by lia
  rw [e] at h
  have e2 : Nat.ble 55 m = false := by
    cases q : Nat.ble 55 m with
    | false => rfl
    | true => have := Nat.le_of_ble_eq_true q; lia
  rw [e2] at h
  have h : chk3 n (m - n) = true := h
  unfold chk3 at h
  simp only [fz_is] at h
  rw [e] at h
  obtain ⟨p, q⟩ := and2 h
  refine ⟨not1 p, ?_⟩
  split at q
  · rename_i l
    obtain ⟨q, r⟩ := and2 q
    rw [endA_is] at r
    exact .inl ⟨l, not1 q, r⟩
  · rename_i l
    obtain ⟨q, r⟩ := and2 q
    rw [endA_is] at r
    exact .inr ⟨l, not1 q, r⟩
theorem F4 {m n : Nat} (h1 : 1 ≤ n) (h2 : n ≤ m) (h3 : m ≤ 54) (h4 : m ≤ n + 21) : fsub (F m) (F n) = F (m - n) := by
  have h := allTo_of (allTo_of t4 n h1 (by lia)) (m - n + 1) (by lia) (by lia)
  have e2 : Nat.ble 56 (n + (m - n + 1)) = false := by
    cases q : Nat.ble 56 (n + (m - n + 1)) with
    | false => rfl
    | true => have := Nat.le_of_ble_eq_true q; lia
  rw [e2] at h
  have h : chk4 n (m - n + 1 - 1) = true := h
  unfold chk4 at h
  have e : n + (m - n + 1 - 1) = m := by lia
  have e' : m - n + 1 - 1 = m - n := by lia
  rw [e, e'] at h
  exact eq_of_beq h
theorem tells_of {k j : Int} {z : Bool} {o : Option Int} (h : tells k j z o = true) : ∃ p, o = some p ∧ (p % 3 = k ∨ (p % 3 = j ∧ z = true)) := by
  unfold tells at h
  split at h
  · rename_i p
    refine ⟨p, rfl, ?_⟩
    rcases (Bool.or_eq_true _ _).mp h with q | q
    · exact .inl (of_decide_eq_true q)
    · exact .inr ⟨of_decide_eq_true (and2 q).1, (and2 q).2⟩
  · cases h
theorem F5 {r d : Nat} (h1 : 1 ≤ r) (h2 : d ≤ r) (h3 : r ≤ 21) : let q := Float64.div (F d) (F r)
    Float64.div (F r) (F r) = oneF ∧ tells 0 0 false (rnd3 (fsub oneF q)) = true ∧ tells 0 2 (Nat.beq d 0) (rnd3 (fsub q oneF)) = true ∧ tells 1 2 (Nat.beq d 0) (rnd3 (fsub (fadd two oneF) q)) = true ∧
    (d ≠ 0 → tells 1 1 false (rnd3 (fsub (fadd two q) oneF)) = true ∧ tells 2 2 false (rnd3 (fsub (fadd fourF q) oneF)) = true ∧ tells 2 2 false (rnd3 (fsub (fadd fourF oneF) q)) = true) := by
  intro q
  have h := allTo_of (t5 r h1 h3) (d + 1) (by lia) (by lia)
  have e2 : Nat.blt r (d + 1 - 1) = false := by
    rw [blt_is]; simp; lia
  rw [e2] at h
  have h : chk5 r (d + 1 - 1) = true := h
  unfold chk5 at h
  simp only [fz_is, rnd3_is, Nat.add_sub_cancel] at h
  obtain ⟨a, h⟩ := and2 h
  obtain ⟨b, h⟩ := and2 h
  obtain ⟨c, h⟩ := and2 h
  obtain ⟨e, h⟩ := and2 h
  refine ⟨eq_of_beq a, b, c, e, fun hd => ?_⟩
  have hb : Nat.beq d 0 = false := by
    cases q : Nat.beq d 0 with
    | false => rfl
    | true => exact absurd (Nat.eq_of_beq_eq_true q) hd
  rw [hb] at h
  have h : (_ && (_ && _)) = true := h
  exact ⟨(and2 h).1, (and2 (and2 h).2).1, (and2 (and2 h).2).2⟩
end Mine
namespace Mine
open PySem PySem.W PySem.W.X
structure Tri (a b c : Nat) : Prop where
  a1 : 1 ≤ a
  b1 : 1 ≤ b
  c1 : 1 ≤ c
  a2 : a ≤ 54
  b2 : b ≤ 54
  c2 : c ≤ 54
  ab : a ≤ b + 21
  ba : b ≤ a + 21
  ac : a ≤ c + 21
  ca : c ≤ a + 21
  bc : b ≤ c + 21
  cb : c ≤ b + 21
noncomputable def mxN (a b c : Nat) : Nat := max (max a b) c
noncomputable def mnN (a b c : Nat) : Nat := min (min a b) c
noncomputable def uOf (a b c : Nat) : Nat → UInt64
  | 0 => F (max a b)
  | 1 => F (mxN a b c)
  | 2 => F (min a b)
  | 3 => F (mnN a b c)
  | _ => mnF1 (Float64.div (fadd (F (mxN a b c)) (F (mnN a b c))) two)
theorem qd (a : Nat) : qdiv (Int.ofNat a) 64 = F a := rfl
theorem cif {α} {p : Prop} [Decidable p] {x y : α} : (bif decide p then x else y) = if p then x else y := by
  by_cases h : p <;> simp [h]
theorem head7_ok {a b c : Nat} (T : Tri a b c) : ∀ A ∈ head7 (Int.ofNat a) (Int.ofNat b) (Int.ofNat c) (uOf a b c), A := by
  obtain ⟨a1, b1, c1, a2, b2, c2, ab, ba, ac, ca, bc, cb⟩ := T
  simp only [head7, List.forall_mem_cons, qd, uOf, true_and]
  have X := F2 (a := a) (b := b) (by omega) (by omega) (by omega) (by omega) (by omega) (by omega)
  have Y := F2 (a := max a b) (b := c) (by omega) (by omega) (by omega) (by omega) (by omega) (by omega)
  have Z := F2 (a := min a b) (b := c) (by omega) (by omega) (by omega) (by omega) (by omega) (by omega)
  refine ⟨⟨by decide, (F1 a1 a2).1⟩, ⟨by decide, (F1 b1 b2).1⟩, ⟨by decide, (F1 c1 c2).1⟩, ?_, ?_, ?_, ?_, fun x h => by cases h⟩
  · rw [X.1, cif]
    split
    · rw [Nat.max_eq_right (by omega)]
    · rw [Nat.max_eq_left (by omega)]
  · rw [Y.1, cif, mxN]
    split
    · rw [Nat.max_eq_right (by omega)]
    · rw [Nat.max_eq_left (by omega)]
  · rw [X.2.1, cif]
    split
    · rw [Nat.min_eq_right (by omega)]
    · rw [Nat.min_eq_left (by omega)]
  · rw [Z.2.1, cif, mnN]
    split
    · rw [Nat.min_eq_right (by omega)]
    · rw [Nat.min_eq_left (by omega)]
theorem endA_of {h s : UInt64} {m : Nat} (e : endA h s m = true) : frnd (fmul (ofI 64) (fadd h (fmul s (mnF1 h)))) = some (Int.ofNat m) := is_of e
theorem lastA_ok {a b c : Nat} {s : UInt64} {m : Nat} (e : endA (Float64.div (fadd (F (mxN a b c)) (F (mnN a b c))) two) s m = true) : ∀ A ∈ lastA (uOf a b c) (Int.ofNat m) s, A := by
  simp only [lastA, half, uOf, List.forall_mem_cons, true_and]
  exact ⟨rfl, endA_of e, fun x h => by cases h⟩
theorem mx_in (a b c : Nat) : mxN a b c = a ∨ mxN a b c = b ∨ mxN a b c = c := by unfold mxN; omega
theorem all_app {l r : List Prop} (h : ∀ A ∈ l, A) (g : ∀ A ∈ r, A) : ∀ A ∈ l ++ r, A := fun A hA => (List.mem_append.mp hA).elim (h A) (g A)
theorem all_cons {P : Prop} {r : List Prop} (h : P) (g : ∀ A ∈ r, A) : ∀ A ∈ P :: r, A := fun A hA => by
  rcases List.mem_cons.mp hA with rfl | q
  · exact h
  · exact g A q
theorem six_ok : ∀ A ∈ six, A := all_cons (by decide +kernel) (all_cons (by decide +kernel) (by simp))
theorem range3_ok {a b c : Nat} (h : Float64.isZero (fsub (F (mxN a b c)) (F (mnN a b c))) = false) : ∀ A ∈ range3 (uOf a b c), A := all_cons h (all_cons h (all_cons h (by simp)))
/-- which of the three is the greatest: 0, 1 or 2 -/
noncomputable def whN (a b c : Nat) : Nat := if a = mxN a b c then 0 else if b = mxN a b c then 1 else 2
theorem which_ok {a b c : Nat} (T : Tri a b c) : ∀ A ∈ which (Int.ofNat a) (Int.ofNat b) (uOf a b c) (whN a b c), A := by
  obtain ⟨a1, b1, c1, a2, b2, c2, ab, ba, ac, ca, bc, cb⟩ := T
  have hm := mx_in a b c
  have X := (F2 (a := a) (b := mxN a b c) (by omega) (by omega) (by omega) (by omega) (by unfold mxN; omega) (by omega)).2.2
  have Y := (F2 (a := b) (b := mxN a b c) (by omega) (by omega) (by omega) (by omega) (by unfold mxN; omega) (by omega)).2.2
  unfold whN
  split
  · rename_i h
    refine all_cons ?_ (by simp)
    show isEq (F a) (F (mxN a b c)) = true
    rw [X]; simpa using h
  · rename_i h
    split
    · rename_i h2
      refine all_cons ?_ (all_cons ?_ (by simp))
      · show isEq (F a) (F (mxN a b c)) = false
        rw [X]; simpa using h
      · show isEq (F b) (F (mxN a b c)) = true
        rw [Y]; simpa using h2
    · rename_i h2
      refine all_cons ?_ (all_cons ?_ (by simp))
      · show isEq (F a) (F (mxN a b c)) = false
        rw [X]; simpa using h
      · show isEq (F b) (F (mxN a b c)) = false
        rw [Y]; simpa using h2
theorem wh_lt (a b c : Nat) : whN a b c = 0 ∨ whN a b c = 1 ∨ whN a b c = 2 := by unfold whN; split <;> (try split) <;> simp
theorem facts0_ok {a b c : Nat} (T : Tri a b c) : ∃ k u, k < 7 ∧ ∀ A ∈ facts0 (Int.ofNat a) (Int.ofNat b) (Int.ofNat c) u (Int.ofNat (mxN a b c)) k, A := by
  have T' := T
  obtain ⟨a1, b1, c1, a2, b2, c2, ab, ba, ac, ca, bc, cb⟩ := T'
  have n1 : 1 ≤ mnN a b c := by unfold mnN; omega
  have n2 : mnN a b c ≤ mxN a b c := by unfold mnN mxN; omega
  have n3 : mxN a b c ≤ 54 := by unfold mxN; omega
  have n4 : mxN a b c ≤ mnN a b c + 21 := by unfold mnN mxN; omega
  have E := (F2 (a := mnN a b c) (b := mxN a b c) (by omega) (by omega) (by omega) (by omega) (by omega) (by omega)).2.2
  have h2 : Float64.isZero two = false := by decide +kernel
  by_cases q : mnN a b c = mxN a b c
  · refine ⟨0, uOf a b c, by decide, all_app (head7_ok T) (all_cons h2 (all_cons ?_ ?_))⟩
    · show isEq (F (mnN a b c)) (F (mxN a b c)) = true
      rw [E]; simpa using q
    · refine lastA_ok ?_
      have := (F1 (a := mxN a b c) (by omega) n3).2.2
      rw [q]; exact this
  · have hE : isEq ((uOf a b c) 3) ((uOf a b c) 1) = false := by
      show isEq (F (mnN a b c)) (F (mxN a b c)) = false
      rw [E]; simpa using q
    obtain ⟨hz, hc⟩ := F3 (m := mxN a b c) (n := mnN a b c) n1 (by omega) n3 n4
    have hw := which_ok T
    rcases hc with ⟨l, z, e⟩ | ⟨l, z, e⟩
    · rcases wh_lt a b c with w | w | w <;> rw [w] at hw
      · exact ⟨1, uOf a b c, by decide, all_app (head7_ok T) (all_cons h2 (all_cons hE (all_cons l (all_cons z (all_app (all_app (all_app (range3_ok hz) hw) six_ok) (lastA_ok e))))))⟩
      · exact ⟨2, uOf a b c, by decide, all_app (head7_ok T) (all_cons h2 (all_cons hE (all_cons l (all_cons z (all_app (all_app (all_app (range3_ok hz) hw) six_ok) (lastA_ok e))))))⟩
      · exact ⟨3, uOf a b c, by decide, all_app (head7_ok T) (all_cons h2 (all_cons hE (all_cons l (all_cons z (all_app (all_app (all_app (range3_ok hz) hw) six_ok) (lastA_ok e))))))⟩
    · rcases wh_lt a b c with w | w | w <;> rw [w] at hw
      · exact ⟨4, uOf a b c, by decide, all_app (head7_ok T) (all_cons h2 (all_cons hE (all_cons l (all_cons z (all_app (all_app (all_app (range3_ok hz) hw) six_ok) (lastA_ok e))))))⟩
      · exact ⟨5, uOf a b c, by decide, all_app (head7_ok T) (all_cons h2 (all_cons hE (all_cons l (all_cons z (all_app (all_app (all_app (range3_ok hz) hw) six_ok) (lastA_ok e))))))⟩
      · exact ⟨6, uOf a b c, by decide, all_app (head7_ok T) (all_cons h2 (all_cons hE (all_cons l (all_cons z (all_app (all_app (all_app (range3_ok hz) hw) six_ok) (lastA_ok e))))))⟩
end Mine
namespace Mine
open PySem PySem.W PySem.W.X
theorem lastB_ok {x₀ x₁ x₂ : Int} {v₀ v₁ v₂ : Tok} {p : Int} {v : Value} {hue : UInt64} (h : frnd (fmul hue (ofI 3)) = some p) (g : pick x₀ x₁ x₂ v₀ v₁ v₂ (p % 3).toNat = some v) : ∀ A ∈ lastB x₀ x₁ x₂ v₀ v₁ v₂ p v hue, A :=
  all_cons h (all_cons ⟨by lia, by lia, g⟩ (by simp))
theorem pick_at {x₀ x₁ x₂ : Int} {v₀ v₁ v₂ : Tok} {p : Int} {m : Int} (h : (p % 3 = 0 ∧ x₀ = m) ∨ (p % 3 = 1 ∧ x₁ = m) ∨ (p % 3 = 2 ∧ x₂ = m)) : ∃ τ, pick x₀ x₁ x₂ v₀ v₁ v₂ (p % 3).toNat = some (.int m τ) := by
  rcases h with ⟨h, rfl⟩ | ⟨h, rfl⟩ | ⟨h, rfl⟩ <;> rw [h]
  · exact ⟨v₀, rfl⟩
  · exact ⟨v₁, rfl⟩
  · exact ⟨v₂, rfl⟩
theorem facts1_ok {a b c : Nat} (v₀ v₁ v₂ : Tok) (T : Tri a b c) : ∃ k u p τ, k < 4 ∧ ∀ A ∈ facts1 (Int.ofNat a) (Int.ofNat b) (Int.ofNat c) v₀ v₁ v₂ u p (.int (Int.ofNat (mxN a b c)) τ) k, A := by
  have T' := T
  obtain ⟨a1, b1, c1, a2, b2, c2, ab, ba, ac, ca, bc, cb⟩ := T'
  have n1 : 1 ≤ mnN a b c := by unfold mnN; lia
  have n2 : mnN a b c ≤ mxN a b c := by unfold mnN mxN; lia
  have n3 : mxN a b c ≤ 54 := by unfold mxN; lia
  have n4 : mxN a b c ≤ mnN a b c + 21 := by unfold mnN mxN; lia
  have ma : a ≤ mxN a b c := by unfold mxN; lia
  have mb : b ≤ mxN a b c := by unfold mxN; lia
  have mc : c ≤ mxN a b c := by unfold mxN; lia
  have E := (F2 (a := mnN a b c) (b := mxN a b c) (by lia) (by lia) (by lia) (by lia) (by lia) (by lia)).2.2
  by_cases q : mnN a b c = mxN a b c
  · have e : a = mxN a b c := by unfold mnN at q; unfold mxN at q ⊢; lia
    have h0 : frnd (fmul 0 (ofI 3)) = some 0 := by decide +kernel
    obtain ⟨τ, hτ⟩ := pick_at (x₀ := Int.ofNat a) (x₁ := Int.ofNat b) (x₂ := Int.ofNat c) (v₀ := v₀) (v₁ := v₁) (v₂ := v₂) (p := 0) (m := Int.ofNat (mxN a b c)) (.inl ⟨rfl, by rw [← e]⟩)
    refine ⟨0, uOf a b c, 0, τ, by decide, all_app (head7_ok T) (all_cons ?_ (lastB_ok h0 hτ))⟩
    show isEq (F (mnN a b c)) (F (mxN a b c)) = true
    rw [E]; simpa using q
  · have hE : isEq ((uOf a b c) 3) ((uOf a b c) 1) = false := by
      show isEq (F (mnN a b c)) (F (mxN a b c)) = false
      rw [E]; simpa using q
    have hz := (F3 (m := mxN a b c) (n := mnN a b c) n1 (by lia) n3 n4).1
    have hu : Float64.isZero ((uOf a b c) 1) = false := (F1 (a := mxN a b c) (by lia) n3).2.1
    have hw := which_ok T
    have dr : fsub (F (mxN a b c)) (F (mnN a b c)) = F (mxN a b c - mnN a b c) := F4 n1 n2 n3 n4
    have da : fsub (F (mxN a b c)) (F a) = F (mxN a b c - a) := F4 a1 ma n3 (by unfold mxN; lia)
    have db : fsub (F (mxN a b c)) (F b) = F (mxN a b c - b) := F4 b1 mb n3 (by unfold mxN; lia)
    have dc : fsub (F (mxN a b c)) (F c) = F (mxN a b c - c) := F4 c1 mc n3 (by unfold mxN; lia)
    have Wa := F5 (r := mxN a b c - mnN a b c) (d := mxN a b c - a) (by lia) (by unfold mnN; lia) (by lia)
    have Wb := F5 (r := mxN a b c - mnN a b c) (d := mxN a b c - b) (by lia) (by unfold mnN; lia) (by lia)
    have Wc := F5 (r := mxN a b c - mnN a b c) (d := mxN a b c - c) (by lia) (by unfold mnN; lia) (by lia)
    dsimp only at Wa Wb Wc
    have zer : ∀ x : Nat, Nat.beq (mxN a b c - x) 0 = true → x ≤ mxN a b c → x = mxN a b c := fun x h l => by have := Nat.eq_of_beq_eq_true h; lia
    have ones : ∀ x, x = mnN a b c → Float64.div (F (mxN a b c - x)) (F (mxN a b c - mnN a b c)) = oneF := fun x h => by rw [h]; exact Wa.1
    -- the end, from what is told of the hue
    have fin : ∀ k, whN a b c = k → (∃ p, rnd3 (hueOf (Int.ofNat a) (Int.ofNat b) (Int.ofNat c) (uOf a b c) (k + 1)) = some p ∧ ((p % 3 = 0 ∧ a = mxN a b c) ∨ (p % 3 = 1 ∧ b = mxN a b c) ∨ (p % 3 = 2 ∧ c = mxN a b c))) →
        ∃ k u p τ, k < 4 ∧ ∀ A ∈ facts1 (Int.ofNat a) (Int.ofNat b) (Int.ofNat c) v₀ v₁ v₂ u p (.int (Int.ofNat (mxN a b c)) τ) k, A := by
      intro k hk ⟨p, hp, hx⟩
      rw [hk] at hw
      obtain ⟨τ, hτ⟩ := pick_at (x₀ := Int.ofNat a) (x₁ := Int.ofNat b) (x₂ := Int.ofNat c) (v₀ := v₀) (v₁ := v₁) (v₂ := v₂) (p := p) (m := Int.ofNat (mxN a b c)) (by
        rcases hx with ⟨x, y⟩ | ⟨x, y⟩ | ⟨x, y⟩
        · exact .inl ⟨x, congrArg Int.ofNat y⟩
        · exact .inr (.inl ⟨x, congrArg Int.ofNat y⟩)
        · exact .inr (.inr ⟨x, congrArg Int.ofNat y⟩))
      have hk3 : k < 3 := by rcases wh_lt a b c with w | w | w <;> lia
      exact ⟨k + 1, uOf a b c, p, τ, by lia, all_app (head7_ok T) (all_cons hE (all_cons hu (all_app (all_app (all_app (range3_ok hz) hw) six_ok) (lastB_ok hp hτ))))⟩
    have cA : Float64.div (fsub (uOf a b c 1) (qdiv (Int.ofNat a) 64)) (fsub (uOf a b c 1) (uOf a b c 3)) = Float64.div (F (mxN a b c - a)) (F (mxN a b c - mnN a b c)) := by
      show Float64.div (fsub (F (mxN a b c)) (F a)) (fsub (F (mxN a b c)) (F (mnN a b c))) = _
      rw [da, dr]
    have cB : Float64.div (fsub (uOf a b c 1) (qdiv (Int.ofNat b) 64)) (fsub (uOf a b c 1) (uOf a b c 3)) = Float64.div (F (mxN a b c - b)) (F (mxN a b c - mnN a b c)) := by
      show Float64.div (fsub (F (mxN a b c)) (F b)) (fsub (F (mxN a b c)) (F (mnN a b c))) = _
      rw [db, dr]
    have cC : Float64.div (fsub (uOf a b c 1) (qdiv (Int.ofNat c) 64)) (fsub (uOf a b c 1) (uOf a b c 3)) = Float64.div (F (mxN a b c - c)) (F (mxN a b c - mnN a b c)) := by
      show Float64.div (fsub (F (mxN a b c)) (F c)) (fsub (F (mxN a b c)) (F (mnN a b c))) = _
      rw [dc, dr]
    by_cases w0 : a = mxN a b c
    · refine fin 0 (by unfold whN; rw [if_pos w0]) ?_
      show ∃ p, rnd3 (fsub _ _) = some p ∧ _
      dsimp only; rw [cC, cB]
      by_cases e : c = mnN a b c
      · rw [ones c e]
        obtain ⟨p, hp, hx⟩ := tells_of Wb.2.1
        exact ⟨p, hp, .inl ⟨hx.elim id (fun x => (nomatch x.2)), w0⟩⟩
      · have e : b = mnN a b c := by unfold mnN at e q ⊢; lia
        rw [ones b e]
        obtain ⟨p, hp, hx⟩ := tells_of Wc.2.2.1
        exact ⟨p, hp, hx.elim (fun x => .inl ⟨x, w0⟩) (fun x => .inr (.inr ⟨x.1, zer c x.2 mc⟩))⟩
    · by_cases w1 : b = mxN a b c
      · refine fin 1 (by unfold whN; rw [if_neg w0, if_pos w1]) ?_
        show ∃ p, rnd3 (fsub (fadd two _) _) = some p ∧ _
        dsimp only; rw [cA, cC]
        by_cases e : a = mnN a b c
        · rw [ones a e]
          obtain ⟨p, hp, hx⟩ := tells_of Wc.2.2.2.1
          exact ⟨p, hp, hx.elim (fun x => .inr (.inl ⟨x, w1⟩)) (fun x => .inr (.inr ⟨x.1, zer c x.2 mc⟩))⟩
        · have e : c = mnN a b c := by unfold mnN at e q ⊢; lia
          rw [ones c e]
          obtain ⟨p, hp, hx⟩ := tells_of (Wa.2.2.2.2 (by lia)).1
          exact ⟨p, hp, .inr (.inl ⟨hx.elim id (fun x => x.1), w1⟩)⟩
      · refine fin 2 (by unfold whN; rw [if_neg w0, if_neg w1]) ?_
        have w2 : c = mxN a b c := by rcases mx_in a b c with z | z | z <;> lia
        show ∃ p, rnd3 (fsub (fadd fourF _) _) = some p ∧ _
        dsimp only; rw [cB, cA]
        by_cases e : a = mnN a b c
        · rw [ones a e]
          obtain ⟨p, hp, hx⟩ := tells_of (Wb.2.2.2.2 (by lia)).2.1
          exact ⟨p, hp, .inr (.inr ⟨hx.elim id (fun x => x.1), w2⟩)⟩
        · have e : b = mnN a b c := by unfold mnN at e q ⊢; lia
          rw [ones b e]
          obtain ⟨p, hp, hx⟩ := tells_of (Wa.2.2.2.2 (by lia)).2.2
          exact ⟨p, hp, .inr (.inr ⟨hx.elim id (fun x => x.1), w2⟩)⟩
end Mine
namespace Mine
/-- a table of three parts -/
structure Tb where
  r : Int
  g : Int
  b : Int
noncomputable def mx3 (a b c : Int) : Int := max (max a b) c
theorem mx3_a (a b c : Int) : a ≤ mx3 a b c := Int.le_trans (Int.le_max_left a b) (Int.le_max_left _ c)
theorem mx3_b (a b c : Int) : b ≤ mx3 a b c := Int.le_trans (Int.le_max_right a b) (Int.le_max_left _ c)
theorem mx3_c (a b c : Int) : c ≤ mx3 a b c := Int.le_max_right _ c
theorem mx3_is (a b c : Int) : mx3 a b c = a ∨ mx3 a b c = b ∨ mx3 a b c = c := by
  unfold mx3
  rcases Int.le_total (max a b) c with h | h
  · exact .inr (.inr (Int.max_eq_right h))
  · rw [Int.max_eq_left h]
    rcases Int.le_total a b with k | k
    · exact .inr (.inl (Int.max_eq_right k))
    · exact .inl (Int.max_eq_left k)
theorem mx3_eq {a b c m : Int} (h1 : a ≤ m) (h2 : b ≤ m) (h3 : c ≤ m) (h : m ≤ a ∨ m ≤ b ∨ m ≤ c) : mx3 a b c = m := by
  refine Int.le_antisymm (Int.max_le.mpr ⟨Int.max_le.mpr ⟨h1, h2⟩, h3⟩) ?_
  rcases h with h | h | h
  · exact Int.le_trans h (mx3_a ..)
  · exact Int.le_trans h (mx3_b ..)
  · exact Int.le_trans h (mx3_c ..)
/-- the same, all moved by u -/
theorem mx3_sh {a b c a' b' c' u : Int} (h1 : a' = a + u) (h2 : b' = b + u) (h3 : c' = c + u) : mx3 a' b' c' = mx3 a b c + u := by
  subst h1; subst h2; subst h3
  refine mx3_eq (Int.add_le_add_right (mx3_a ..) u) (Int.add_le_add_right (mx3_b ..) u) (Int.add_le_add_right (mx3_c ..) u) ?_
  rcases mx3_is a b c with h | h | h <;> rw [h]
  · exact .inl (Int.le_refl _)
  · exact .inr (.inl (Int.le_refl _))
  · exact .inr (.inr (Int.le_refl _))
/-- the same from behind -/
theorem mx3_rv {a b c a' b' c' : Int} (h1 : a' = c) (h2 : b' = b) (h3 : c' = a) : mx3 a' b' c' = mx3 a b c := by
  subst h1; subst h2; subst h3
  refine mx3_eq (mx3_c ..) (mx3_b ..) (mx3_a ..) ?_
  rcases mx3_is c' b' a' with h | h | h <;> rw [h]
  · exact .inr (.inr (Int.le_refl _))
  · exact .inr (.inl (Int.le_refl _))
  · exact .inl (Int.le_refl _)
noncomputable def Tb.sum (x : Tb) : Int := x.r + x.g + x.b
noncomputable def top0 (x y : Tb) : Int := mx3 (x.sum + y.g) (x.b + x.r + y.g + y.b) (x.r + y.sum)
noncomputable def top1 (x y : Tb) : Int := mx3 (x.sum + y.b) (x.r + x.g + y.b + y.r) (x.g + y.sum)
noncomputable def top2 (x y : Tb) : Int := mx3 (x.sum + y.r) (x.g + x.b + y.r + y.g) (x.b + y.sum)
noncomputable def fst (x y : Tb) : Tb := ⟨y.r + top0 x y - top2 x y, y.g + top1 x y - top0 x y, y.b + top2 x y - top1 x y⟩
noncomputable def snd (x y : Tb) : Tb := ⟨x.r + y.r - (fst x y).r, x.g + y.g - (fst x y).g, x.b + y.b - (fst x y).b⟩
theorem fst_sum (x y : Tb) : (fst x y).sum = y.sum := by
  simp only [fst, Tb.sum]; lia
theorem snd_sum (x y : Tb) : (snd x y).sum = x.sum := by
  have := fst_sum x y
  simp only [snd, Tb.sum] at *; lia
/-- bounds of the three sums -/
structure Lo (x y : Tb) (p q s : Int) : Prop where
  p1 : x.r + x.g + x.b + y.g ≤ p
  p2 : x.b + x.r + y.g + y.b ≤ p
  p3 : x.r + y.r + y.g + y.b ≤ p
  q1 : x.r + x.g + x.b + y.b ≤ q
  q2 : x.r + x.g + y.b + y.r ≤ q
  q3 : x.g + y.r + y.g + y.b ≤ q
  s1 : x.r + x.g + x.b + y.r ≤ s
  s2 : x.g + x.b + y.r + y.g ≤ s
  s3 : x.b + y.r + y.g + y.b ≤ s
noncomputable def isP (x y : Tb) (p : Int) : Prop := p = x.r + x.g + x.b + y.g ∨ p = x.b + x.r + y.g + y.b ∨ p = x.r + y.r + y.g + y.b
noncomputable def isQ (x y : Tb) (q : Int) : Prop := q = x.r + x.g + x.b + y.b ∨ q = x.r + x.g + y.b + y.r ∨ q = x.g + y.r + y.g + y.b
noncomputable def isS (x y : Tb) (s : Int) : Prop := s = x.r + x.g + x.b + y.r ∨ s = x.g + x.b + y.r + y.g ∨ s = x.b + y.r + y.g + y.b
theorem add4 (a b c d : Int) : a + (b + c + d) = a + b + c + d := by lia
theorem tops_spec (x y : Tb) : Lo x y (top0 x y) (top1 x y) (top2 x y) ∧ isP x y (top0 x y) ∧ isQ x y (top1 x y) ∧ isS x y (top2 x y) := by
  have e0 := add4 x.r y.r y.g y.b
  have e1 := add4 x.g y.r y.g y.b
  have e2 := add4 x.b y.r y.g y.b
  refine ⟨⟨mx3_a .., mx3_b .., ?_, mx3_a .., mx3_b .., ?_, mx3_a .., mx3_b .., ?_⟩, ?_, ?_, ?_⟩
  · rw [← e0]; exact mx3_c ..
  · rw [← e1]; exact mx3_c ..
  · rw [← e2]; exact mx3_c ..
  · unfold isP; rw [← e0]; exact mx3_is ..
  · unfold isQ; rw [← e1]; exact mx3_is ..
  · unfold isS; rw [← e2]; exact mx3_is ..
theorem top0_eq {x y : Tb} {p : Int} (h1 : x.r + x.g + x.b + y.g ≤ p) (h2 : x.b + x.r + y.g + y.b ≤ p) (h3 : x.r + y.r + y.g + y.b ≤ p) (h : p ≤ x.r + x.g + x.b + y.g ∨ p ≤ x.b + x.r + y.g + y.b ∨ p ≤ x.r + y.r + y.g + y.b) : top0 x y = p := by
  rw [← add4 x.r y.r y.g y.b] at h3 h
  exact mx3_eq h1 h2 h3 h
theorem top1_eq {x y : Tb} {p : Int} (h1 : x.r + x.g + x.b + y.b ≤ p) (h2 : x.r + x.g + y.b + y.r ≤ p) (h3 : x.g + y.r + y.g + y.b ≤ p) (h : p ≤ x.r + x.g + x.b + y.b ∨ p ≤ x.r + x.g + y.b + y.r ∨ p ≤ x.g + y.r + y.g + y.b) : top1 x y = p := by
  rw [← add4 x.g y.r y.g y.b] at h3 h
  exact mx3_eq h1 h2 h3 h
theorem top2_eq {x y : Tb} {p : Int} (h1 : x.r + x.g + x.b + y.r ≤ p) (h2 : x.g + x.b + y.r + y.g ≤ p) (h3 : x.b + y.r + y.g + y.b ≤ p) (h : p ≤ x.r + x.g + x.b + y.r ∨ p ≤ x.g + x.b + y.r + y.g ∨ p ≤ x.b + y.r + y.g + y.b) : top2 x y = p := by
  rw [← add4 x.b y.r y.g y.b] at h3 h
  exact mx3_eq h1 h2 h3 h
-- the invariants of an exchange
theorem min_eq2 {a b c d : Int} (h1 : ∀ m, m ≤ a → m ≤ b → m ≤ c ∧ m ≤ d) (h2 : c ≤ a ∨ d ≤ a) (h3 : c ≤ b ∨ d ≤ b) : min a b = min c d := by
  obtain ⟨k1, k2⟩ := h1 (min a b) (Int.min_le_left ..) (Int.min_le_right ..)
  refine Int.le_antisymm (Int.le_min.mpr ⟨k1, k2⟩) (Int.le_min.mpr ⟨?_, ?_⟩)
  · exact h2.elim (fun h => Int.le_trans (Int.min_le_left ..) h) (fun h => Int.le_trans (Int.min_le_right ..) h)
  · exact h3.elim (fun h => Int.le_trans (Int.min_le_left ..) h) (fun h => Int.le_trans (Int.min_le_right ..) h)
theorem inv_min (x y : Tb) : min x.b y.r = min (fst x y).b (snd x y).r ∧ min x.r y.g = min (fst x y).r (snd x y).g ∧ min x.g y.b = min (fst x y).g (snd x y).b := by
  obtain ⟨⟨p1, p2, p3, q1, q2, q3, s1, s2, s3⟩, hp, hq, hs⟩ := tops_spec x y
  simp only [fst, snd]
  generalize top0 x y = p at *
  generalize top1 x y = q at *
  generalize top2 x y = s at *
  unfold isP at hp
  unfold isQ at hq
  unfold isS at hs
  refine ⟨min_eq2 (fun m h1 h2 => ⟨?_, ?_⟩) ?_ ?_, min_eq2 (fun m h1 h2 => ⟨?_, ?_⟩) ?_ ?_, min_eq2 (fun m h1 h2 => ⟨?_, ?_⟩) ?_ ?_⟩
  · clear hp hs p1 p2 p3 q1 q2 q3; rcases hq with h | h | h <;> lia
  · clear hq hs p1 p2 p3 q1 q2 q3; rcases hp with h | h | h <;> lia
  · clear hp hq s1 s2 s3; rcases hs with h | h | h <;> lia
  · clear hp hq s1 s2 s3; rcases hs with h | h | h <;> lia
  · clear hp hq s1 s2 s3 q1 q2 q3; rcases hs with h | h | h <;> lia
  · clear hp hs s1 s2 s3 q1 q2 q3; rcases hq with h | h | h <;> lia
  · clear hq hs p1 p2 p3; rcases hp with h | h | h <;> lia
  · clear hq hs p1 p2 p3; rcases hp with h | h | h <;> lia
  · clear hq hs p1 p2 p3 s1 s2 s3; rcases hp with h | h | h <;> lia
  · clear hp hq p1 p2 p3 s1 s2 s3; rcases hs with h | h | h <;> lia
  · clear hp hs q1 q2 q3; rcases hq with h | h | h <;> lia
  · clear hp hs q1 q2 q3; rcases hq with h | h | h <;> lia
theorem inv_tops (x y : Tb) : top0 (fst x y) (snd x y) = top0 x y ∧ top1 (fst x y) (snd x y) = top1 x y ∧ top2 (fst x y) (snd x y) = top2 x y := by
  obtain ⟨⟨p1, p2, p3, q1, q2, q3, s1, s2, s3⟩, hp, hq, hs⟩ := tops_spec x y
  have e1 := fst_sum x y
  have e2 := snd_sum x y
  refine ⟨?_, ?_, ?_⟩
  · rw [top0, e1, e2]
    simp only [fst, snd, Tb.sum]
    generalize top0 x y = p at *
    generalize top1 x y = q at *
    generalize top2 x y = s at *
    clear e1 e2
    apply mx3_eq
    · clear hp hq hs; lia
    · clear hq hs p1 p2 p3; unfold isP at hp; rcases hp with h | h | h <;> lia
    · clear hp hq hs; lia
    · clear hp q1 q2 q3 s1 s2 s3; unfold isQ at hq; unfold isS at hs; rcases hq with h | h | h <;> rcases hs with k | k | k <;> lia
  · rw [top1, e1, e2]
    simp only [fst, snd, Tb.sum]
    generalize top0 x y = p at *
    generalize top1 x y = q at *
    generalize top2 x y = s at *
    clear e1 e2
    apply mx3_eq
    · clear hp hq hs; lia
    · clear hp hs q1 q2 q3; unfold isQ at hq; rcases hq with h | h | h <;> lia
    · clear hp hq hs; lia
    · clear hq p1 p2 p3 s1 s2 s3; unfold isP at hp; unfold isS at hs; rcases hp with h | h | h <;> rcases hs with k | k | k <;> lia
  · rw [top2, e1, e2]
    simp only [fst, snd, Tb.sum]
    generalize top0 x y = p at *
    generalize top1 x y = q at *
    generalize top2 x y = s at *
    clear e1 e2
    apply mx3_eq
    · clear hp hq hs; lia
    · clear hp hq s1 s2 s3; unfold isS at hs; rcases hs with h | h | h <;> lia
    · clear hp hq hs; lia
    · clear hs p1 p2 p3 q1 q2 q3; unfold isP at hp; unfold isQ at hq; rcases hp with h | h | h <;> rcases hq with k | k | k <;> lia
theorem pos (x y : Tb) (hx : 1 ≤ x.r ∧ 1 ≤ x.g ∧ 1 ≤ x.b) (hy : 1 ≤ y.r ∧ 1 ≤ y.g ∧ 1 ≤ y.b) :
    (1 ≤ (fst x y).r ∧ 1 ≤ (fst x y).g ∧ 1 ≤ (fst x y).b) ∧ (1 ≤ (snd x y).r ∧ 1 ≤ (snd x y).g ∧ 1 ≤ (snd x y).b) := by
  obtain ⟨m0, m1, m2⟩ := inv_min x y
  have k0 : 1 ≤ min x.b y.r := Int.le_min.mpr ⟨hx.2.2, hy.1⟩
  have k1 : 1 ≤ min x.r y.g := Int.le_min.mpr ⟨hx.1, hy.2.1⟩
  have k2 : 1 ≤ min x.g y.b := Int.le_min.mpr ⟨hx.2.1, hy.2.2⟩
  rw [m0] at k0
  rw [m1] at k1
  rw [m2] at k2
  have l0 := Int.le_min.mp k0
  have l1 := Int.le_min.mp k1
  have l2 := Int.le_min.mp k2
  exact ⟨⟨l1.1, l2.1, l0.1⟩, l0.2, l1.2, l2.2⟩
noncomputable def Tb.add (x : Tb) (t : Int) : Tb := ⟨x.r + t, x.g + t, x.b + t⟩
theorem tops_add (x y : Tb) (t : Int) : top0 (x.add t) (y.add t) = top0 x y + 4 * t ∧ top1 (x.add t) (y.add t) = top1 x y + 4 * t ∧ top2 (x.add t) (y.add t) = top2 x y + 4 * t := by
  simp only [top0, top1, top2, Tb.add, Tb.sum]
  refine ⟨mx3_sh ?_ ?_ ?_, mx3_sh ?_ ?_ ?_, mx3_sh ?_ ?_ ?_⟩ <;> lia
theorem fst_add (x y : Tb) (t : Int) : fst (x.add t) (y.add t) = (fst x y).add t := by
  obtain ⟨h1, h2, h3⟩ := tops_add x y t
  simp only [fst, h1, h2, h3]
  simp only [Tb.add, Tb.mk.injEq]; lia
theorem snd_add (x y : Tb) (t : Int) : snd (x.add t) (y.add t) = (snd x y).add t := by
  simp only [snd, fst_add]
  simp only [Tb.add, Tb.mk.injEq]; lia
end Mine
namespace Mine
/-- a road: three heights and the rise of a round -/
structure Rd where
  p : Int
  q : Int
  s : Int
  z : Int
noncomputable def Rd.tb (v : Rd) : Tb := ⟨v.p + v.z - v.s, v.q - v.p, v.s - v.q⟩
noncomputable def La (x : Tb) (v : Rd) : Rd := ⟨x.r + mx3 (x.g + x.b + v.q) (x.b + v.s) (v.p + v.z), x.g + mx3 (x.b + x.r + v.s) (x.r + v.p + v.z) (v.q + v.z), x.b + mx3 (x.r + x.g + v.p + v.z) (x.g + v.q + v.z) (v.s + v.z), v.z⟩
theorem La_tb (x : Tb) (v : Rd) : fst x v.tb = (La x v).tb := by
  have t0 : top0 x v.tb = mx3 (x.g + x.b + v.q) (x.b + v.s) (v.p + v.z) + (x.r - v.p) := by
    simp only [top0, Rd.tb, Tb.sum]
    refine mx3_sh ?_ ?_ ?_ <;> lia
  have t1 : top1 x v.tb = mx3 (x.b + x.r + v.s) (x.r + v.p + v.z) (v.q + v.z) + (x.g - v.q) := by
    simp only [top1, Rd.tb, Tb.sum]
    refine mx3_sh ?_ ?_ ?_ <;> lia
  have t2 : top2 x v.tb = mx3 (x.r + x.g + v.p + v.z) (x.g + v.q + v.z) (v.s + v.z) + (x.b - v.s) := by
    simp only [top2, Rd.tb, Tb.sum]
    refine mx3_sh ?_ ?_ ?_ <;> lia
  simp only [fst, La, t0, t1, t2]
  simp only [Rd.tb, Tb.mk.injEq]
  refine ⟨?_, ?_, ?_⟩ <;> lia
noncomputable def mx5 (a b c d e : Int) : Int := mx3 (max a b) (max c d) e
theorem mx5_eq {a b c d e m : Int} (h1 : a ≤ m) (h2 : b ≤ m) (h3 : c ≤ m) (h4 : d ≤ m) (h5 : e ≤ m) (h : m ≤ a ∨ m ≤ b ∨ m ≤ c ∨ m ≤ d ∨ m ≤ e) : m = mx5 a b c d e := by
  refine (mx3_eq (Int.max_le.mpr ⟨h1, h2⟩) (Int.max_le.mpr ⟨h3, h4⟩) h5 ?_).symm
  rcases h with h | h | h | h | h
  · exact .inl (Int.le_trans h (Int.le_max_left ..))
  · exact .inl (Int.le_trans h (Int.le_max_right ..))
  · exact .inr (.inl (Int.le_trans h (Int.le_max_left ..)))
  · exact .inr (.inl (Int.le_trans h (Int.le_max_right ..)))
  · exact .inr (.inr h)
/-- a road's heights behind a table: from below, and which -/
structure LaLo (x : Tb) (v : Rd) (a b c : Int) : Prop where
  a1 : x.r + x.g + x.b + v.q ≤ a
  a2 : x.r + x.b + v.s ≤ a
  a3 : x.r + v.p + v.z ≤ a
  b1 : x.r + x.g + x.b + v.s ≤ b
  b2 : x.g + x.r + v.p + v.z ≤ b
  b3 : x.g + v.q + v.z ≤ b
  c1 : x.r + x.g + x.b + v.p + v.z ≤ c
  c2 : x.b + x.g + v.q + v.z ≤ c
  c3 : x.b + v.s + v.z ≤ c
theorem La_spec (x : Tb) (v : Rd) : ∃ a b c, La x v = ⟨a, b, c, v.z⟩ ∧ LaLo x v a b c ∧
    (a = x.r + x.g + x.b + v.q ∨ a = x.r + x.b + v.s ∨ a = x.r + v.p + v.z) ∧
    (b = x.r + x.g + x.b + v.s ∨ b = x.g + x.r + v.p + v.z ∨ b = x.g + v.q + v.z) ∧
    (c = x.r + x.g + x.b + v.p + v.z ∨ c = x.b + x.g + v.q + v.z ∨ c = x.b + v.s + v.z) := by
  have a1 := mx3_a (x.g + x.b + v.q) (x.b + v.s) (v.p + v.z)
  have a2 := mx3_b (x.g + x.b + v.q) (x.b + v.s) (v.p + v.z)
  have a3 := mx3_c (x.g + x.b + v.q) (x.b + v.s) (v.p + v.z)
  have a4 := mx3_is (x.g + x.b + v.q) (x.b + v.s) (v.p + v.z)
  have b1 := mx3_a (x.b + x.r + v.s) (x.r + v.p + v.z) (v.q + v.z)
  have b2 := mx3_b (x.b + x.r + v.s) (x.r + v.p + v.z) (v.q + v.z)
  have b3 := mx3_c (x.b + x.r + v.s) (x.r + v.p + v.z) (v.q + v.z)
  have b4 := mx3_is (x.b + x.r + v.s) (x.r + v.p + v.z) (v.q + v.z)
  have c1 := mx3_a (x.r + x.g + v.p + v.z) (x.g + v.q + v.z) (v.s + v.z)
  have c2 := mx3_b (x.r + x.g + v.p + v.z) (x.g + v.q + v.z) (v.s + v.z)
  have c3 := mx3_c (x.r + x.g + v.p + v.z) (x.g + v.q + v.z) (v.s + v.z)
  have c4 := mx3_is (x.r + x.g + v.p + v.z) (x.g + v.q + v.z) (v.s + v.z)
  refine ⟨_, _, _, rfl, ⟨?_, ?_, ?_, ?_, ?_, ?_, ?_, ?_, ?_⟩, ?_, ?_, ?_⟩
  · clear a2 a3 a4 b1 b2 b3 b4 c1 c2 c3 c4; lia
  · clear a1 a3 a4 b1 b2 b3 b4 c1 c2 c3 c4; lia
  · clear a1 a2 a4 b1 b2 b3 b4 c1 c2 c3 c4; lia
  · clear a1 a2 a3 a4 b2 b3 b4 c1 c2 c3 c4; lia
  · clear a1 a2 a3 a4 b1 b3 b4 c1 c2 c3 c4; lia
  · clear a1 a2 a3 a4 b1 b2 b4 c1 c2 c3 c4; lia
  · clear a1 a2 a3 a4 b1 b2 b3 b4 c2 c3 c4; lia
  · clear a1 a2 a3 a4 b1 b2 b3 b4 c1 c3 c4; lia
  · clear a1 a2 a3 a4 b1 b2 b3 b4 c1 c2 c4; lia
  · clear a1 a2 a3 b1 b2 b3 b4 c1 c2 c3 c4
    rcases a4 with h | h | h <;> rw [h]
    · exact .inl (by lia)
    · exact .inr (.inl (by lia))
    · exact .inr (.inr (by lia))
  · clear a1 a2 a3 a4 b1 b2 b3 c1 c2 c3 c4
    rcases b4 with h | h | h <;> rw [h]
    · exact .inl (by lia)
    · exact .inr (.inl (by lia))
    · exact .inr (.inr (by lia))
  · clear a1 a2 a3 a4 b1 b2 b3 b4 c1 c2 c3
    rcases c4 with h | h | h <;> rw [h]
    · exact .inl (by lia)
    · exact .inr (.inl (by lia))
    · exact .inr (.inr (by lia))
theorem min_cases (a b : Int) : ∃ m, min a b = m ∧ m ≤ a ∧ m ≤ b ∧ (m = a ∨ m = b) := by
  refine ⟨_, rfl, Int.min_le_left .., Int.min_le_right .., ?_⟩
  rcases Int.le_total a b with h | h
  · exact .inl (Int.min_eq_left h)
  · exact .inr (Int.min_eq_right h)
theorem La_two (x y : Tb) (v : Rd) : La x (La y v) = ⟨
    mx5 (x.sum + y.sum + v.s) (x.sum + y.sum - min x.g y.b + v.p + v.z) (top0 x y + v.q + v.z) (x.r + y.r + (x.b + y.b) - min x.b y.r + v.s + v.z) (x.r + y.r + v.p + v.z + v.z),
    mx5 (x.sum + y.sum + v.p + v.z) (x.sum + y.sum - min x.b y.r + v.q + v.z) (top1 x y + v.s + v.z) (x.g + y.g + (x.r + y.r) - min x.r y.g + v.p + v.z + v.z) (x.g + y.g + v.q + v.z + v.z),
    mx5 (x.sum + y.sum + v.q + v.z) (x.sum + y.sum - min x.r y.g + v.s + v.z) (top2 x y + v.p + v.z + v.z) (x.b + y.b + (x.g + y.g) - min x.g y.b + v.q + v.z + v.z) (x.b + y.b + v.s + v.z + v.z), v.z⟩ := by
  obtain ⟨⟨p1, p2, p3, q1, q2, q3, s1, s2, s3⟩, hp, hq, hs⟩ := tops_spec x y
  obtain ⟨a, b, c, e, ⟨a1, a2, a3, b1, b2, b3, c1, c2, c3⟩, ka, kb, kc⟩ := La_spec y v
  obtain ⟨a', b', c', e', L', ka', kb', kc'⟩ := La_spec x (La y v)
  rw [e']
  rw [e] at L' ka' kb' kc' ⊢
  obtain ⟨A1, A2, A3, B1, B2, B3, C1, C2, C3⟩ := L'
  obtain ⟨m, em, m1, m2, mc⟩ := min_cases x.g y.b
  obtain ⟨n, en, n1, n2, nc⟩ := min_cases x.b y.r
  obtain ⟨o, eo, o1, o2, oc⟩ := min_cases x.r y.g
  rw [em, en, eo]
  generalize top0 x y = p at *
  generalize top1 x y = q at *
  generalize top2 x y = s at *
  simp only [Rd.mk.injEq, and_true, Tb.sum] at *
  clear em en eo e e'
  refine ⟨?_, ?_, ?_⟩
  · clear kb' kc' hq hs q1 q2 q3 s1 s2 s3 B1 B2 B3 C1 C2 C3 o1 o2 oc
    apply mx5_eq
    · clear hp ka kb kc ka' mc nc p1 p2 p3; lia
    · clear hp ka kb kc ka' nc p1 p2 p3; rcases mc with h | h <;> lia
    · clear ka kb kc ka' mc nc p1 p2 p3; unfold isP at hp; rcases hp with h | h | h <;> lia
    · clear hp ka kb kc ka' mc p1 p2 p3; rcases nc with h | h <;> lia
    · clear hp ka kb kc ka' mc nc p1 p2 p3; lia
    · clear hp mc nc A1 A2 A3 a1 a2 a3 b1 b2 b3 c1 c2 c3
      rcases ka' with k | k | k
      · clear ka kc p2 p3 n1 n2
        rcases kb with h | h | h
        · exact .inl (by clear m1 m2 p1; lia)
        · exact .inr (.inl (by clear p1; lia))
        · exact .inr (.inr (.inl (by clear m1 m2; lia)))
      · clear ka kb p1 p3
        rcases kc with h | h | h
        · exact .inr (.inl (by clear p2 n1 n2; lia))
        · exact .inr (.inr (.inl (by clear m1 m2 n1 n2; lia)))
        · exact .inr (.inr (.inr (.inl (by clear p2 m1 m2; lia))))
      · clear kb kc p1 p2 m1 m2
        rcases ka with h | h | h
        · exact .inr (.inr (.inl (by clear n1 n2; lia)))
        · exact .inr (.inr (.inr (.inl (by clear p3; lia))))
        · exact .inr (.inr (.inr (.inr (by clear p3 n1 n2; lia))))
  · clear ka' kc' hp hs p1 p2 p3 s1 s2 s3 A1 A2 A3 C1 C2 C3 m1 m2 mc
    apply mx5_eq
    · clear hq ka kb kc kb' oc nc q1 q2 q3; lia
    · clear hq ka kb kc kb' oc q1 q2 q3; rcases nc with h | h <;> lia
    · clear ka kb kc kb' oc nc q1 q2 q3; unfold isQ at hq; rcases hq with h | h | h <;> lia
    · clear hq ka kb kc kb' nc q1 q2 q3; rcases oc with h | h <;> lia
    · clear hq ka kb kc kb' oc nc q1 q2 q3; lia
    · clear hq oc nc B1 B2 B3 a1 a2 a3 b1 b2 b3 c1 c2 c3
      rcases kb' with k | k | k
      · clear ka kb q2 q3
        rcases kc with h | h | h
        · exact .inl (by clear n1 n2 o1 o2 q1; lia)
        · exact .inr (.inl (by clear o1 o2 q1; lia))
        · exact .inr (.inr (.inl (by clear n1 n2 o1 o2; lia)))
      · clear kb kc q1 q3
        rcases ka with h | h | h
        · exact .inr (.inl (by clear q2 o1 o2; lia))
        · exact .inr (.inr (.inl (by clear n1 n2 o1 o2; lia)))
        · exact .inr (.inr (.inr (.inl (by clear q2 n1 n2; lia))))
      · clear ka kc q1 q2 n1 n2
        rcases kb with h | h | h
        · exact .inr (.inr (.inl (by clear o1 o2; lia)))
        · exact .inr (.inr (.inr (.inl (by clear q3; lia))))
        · exact .inr (.inr (.inr (.inr (by clear q3 o1 o2; lia))))
  · clear ka' kb' hp hq p1 p2 p3 q1 q2 q3 A1 A2 A3 B1 B2 B3 n1 n2 nc
    apply mx5_eq
    · clear hs ka kb kc kc' oc mc s1 s2 s3; lia
    · clear hs ka kb kc kc' mc s1 s2 s3; rcases oc with h | h <;> lia
    · clear ka kb kc kc' oc mc s1 s2 s3; unfold isS at hs; rcases hs with h | h | h <;> lia
    · clear hs ka kb kc kc' oc s1 s2 s3; rcases mc with h | h <;> lia
    · clear hs ka kb kc kc' oc mc s1 s2 s3; lia
    · clear hs oc mc C1 C2 C3 a1 a2 a3 b1 b2 b3 c1 c2 c3
      rcases kc' with k | k | k
      · clear kb kc s2 s3
        rcases ka with h | h | h
        · exact .inl (by clear m1 m2 o1 o2 s1; lia)
        · exact .inr (.inl (by clear m1 m2 s1; lia))
        · exact .inr (.inr (.inl (by clear m1 m2 o1 o2; lia)))
      · clear ka kc s1 s3
        rcases kb with h | h | h
        · exact .inr (.inl (by clear s2 m1 m2; lia))
        · exact .inr (.inr (.inl (by clear m1 m2 o1 o2; lia)))
        · exact .inr (.inr (.inr (.inl (by clear s2 o1 o2; lia))))
      · clear ka kb s1 s2 o1 o2
        rcases kc with h | h | h
        · exact .inr (.inr (.inl (by clear m1 m2; lia)))
        · exact .inr (.inr (.inr (.inl (by clear s3; lia))))
        · exact .inr (.inr (.inr (.inr (by clear s3 m1 m2; lia))))
theorem La_swap (x y : Tb) (v : Rd) : La (fst x y) (La (snd x y) v) = La x (La y v) := by
  rw [La_two, La_two, fst_sum, snd_sum]
  obtain ⟨t0, t1, t2⟩ := inv_tops x y
  obtain ⟨m0, m1, m2⟩ := inv_min x y
  rw [t0, t1, t2, ← m0, ← m1, ← m2]
  have e0 : (fst x y).r + (snd x y).r = x.r + y.r := by simp only [snd]; lia
  have e1 : (fst x y).g + (snd x y).g = x.g + y.g := by simp only [snd]; lia
  have e2 : (fst x y).b + (snd x y).b = x.b + y.b := by simp only [snd]; lia
  rw [e0, e1, e2, Int.add_comm y.sum x.sum]
theorem road (z : Tb) : ∃ v : Rd, z = v.tb := ⟨⟨0, z.g, z.g + z.b, z.sum⟩, by
  cases z; simp only [Rd.tb, Tb.sum, Tb.mk.injEq]; lia⟩
/-- the first tables agree -/
theorem ybe_fst (x y z : Tb) : fst (fst x y) (fst (snd x y) z) = fst x (fst y z) := by
  obtain ⟨v, rfl⟩ := road z
  rw [La_tb, La_tb, La_tb, La_tb, La_swap]
-- the last tables: by turning the wheel about
noncomputable def Tb.rev (x : Tb) : Tb := ⟨x.g, x.r, x.b⟩
theorem rev_rev (x : Tb) : x.rev.rev = x := rfl
theorem snd_rev (x y : Tb) : snd x y = (fst y.rev x.rev).rev := by
  have t0 : top0 y.rev x.rev = top0 x y := by
    simp only [top0, Tb.rev, Tb.sum]
    refine mx3_rv ?_ ?_ ?_ <;> lia
  have t1 : top1 y.rev x.rev = top2 x y := by
    simp only [top1, top2, Tb.rev, Tb.sum]
    refine mx3_rv ?_ ?_ ?_ <;> lia
  have t2 : top2 y.rev x.rev = top1 x y := by
    simp only [top1, top2, Tb.rev, Tb.sum]
    refine mx3_rv ?_ ?_ ?_ <;> lia
  simp only [snd, fst, t0, t1, t2]
  simp only [Tb.rev, Tb.mk.injEq]
  refine ⟨?_, ?_, ?_⟩ <;> lia
theorem fst_rev (x y : Tb) : fst x y = (snd y.rev x.rev).rev := by
  rw [snd_rev]; rfl
theorem ybe_snd (x y z : Tb) : snd (snd x y) z = snd (snd x (fst y z)) (snd y z) := by
  have h := ybe_fst z.rev y.rev x.rev
  have a1 : snd x y = (fst y.rev x.rev).rev := snd_rev x y
  have a2 : snd (snd x y) z = (fst z.rev (fst y.rev x.rev)).rev := by rw [snd_rev (snd x y) z, a1]; rfl
  have a3 : fst y z = (snd z.rev y.rev).rev := fst_rev y z
  have a4 : snd y z = (fst z.rev y.rev).rev := snd_rev y z
  have a5 : snd x (fst y z) = (fst (snd z.rev y.rev) x.rev).rev := by rw [snd_rev x, a3]; rfl
  have a6 : snd (snd x (fst y z)) (snd y z) = (fst (fst z.rev y.rev) (fst (snd z.rev y.rev) x.rev)).rev := by rw [snd_rev (snd x (fst y z)), a5, a4]; rfl
  rw [a2, a6, h]
theorem sum_parts (x y : Tb) : (fst x y).r + (snd x y).r = x.r + y.r ∧ (fst x y).g + (snd x y).g = x.g + y.g ∧ (fst x y).b + (snd x y).b = x.b + y.b := by
  simp only [snd]; lia
theorem tb_ext {x y : Tb} (h1 : x.r = y.r) (h2 : x.g = y.g) (h3 : x.b = y.b) : x = y := by
  cases x; cases y; simp_all
/-- Yang, Baxter -/
theorem ybe_mid (x y z : Tb) : snd (fst x y) (fst (snd x y) z) = fst (snd x (fst y z)) (snd y z) := by
  have h1 := ybe_fst x y z
  have h2 := ybe_snd x y z
  have s1 := sum_parts x y
  have s2 := sum_parts (snd x y) z
  have s3 := sum_parts (fst x y) (fst (snd x y) z)
  have s4 := sum_parts y z
  have s5 := sum_parts x (fst y z)
  have s6 := sum_parts (snd x (fst y z)) (snd y z)
  rw [h1] at s3
  rw [h2] at s2
  apply tb_ext <;> lia
end Mine
namespace Mine
/-- d dots look for partners among a, then b, then c -/
structure Tk (a b c d p q s : Int) : Prop where
  p0 : 0 ≤ p
  q0 : 0 ≤ q
  s0 : 0 ≤ s
  sum : p + q + s = d
  pa : p ≤ a
  qb : q ≤ b
  sc : s ≤ c
  pq : (q = 0 ∧ s = 0) ∨ p = a
  qs : s = 0 ∨ q = b
theorem take3 {a b c d p q s : Int} (ha : 0 ≤ a) (hb : 0 ≤ b) (hc : 0 ≤ c) (hd : 0 ≤ d) (h : d ≤ a + b + c) (hp : p = min a d) (hq : q = min b (d - p)) (hs : s = min c (d - p - q)) : Tk a b c d p q s := by
  by_cases h1 : d ≤ a
  · rw [Int.min_eq_right h1] at hp
    subst hp
    rw [Int.sub_self, Int.min_eq_right hb] at hq
    subst hq
    rw [Int.sub_self, Int.sub_zero, Int.min_eq_right hc] at hs
    subst hs
    exact ⟨hd, Int.le_refl 0, Int.le_refl 0, by lia, h1, hb, hc, .inl ⟨rfl, rfl⟩, .inl rfl⟩
  · have h1 : a ≤ d := by lia
    rw [Int.min_eq_left h1] at hp
    subst hp
    by_cases h2 : d - p ≤ b
    · rw [Int.min_eq_right h2] at hq
      subst hq
      rw [Int.sub_self, Int.min_eq_right hc] at hs
      subst hs
      exact ⟨ha, by lia, Int.le_refl 0, by lia, Int.le_refl _, h2, hc, .inr rfl, .inl rfl⟩
    · have h2 : b ≤ d - p := by lia
      rw [Int.min_eq_left h2] at hq
      subst hq
      rw [Int.min_eq_right (by lia)] at hs
      subst hs
      exact ⟨ha, hb, by lia, by lia, Int.le_refl _, Int.le_refl _, by lia, .inr rfl, .inr rfl⟩
theorem fst_of {x y : Tb} {p q s f g b : Int} (hp : top0 x y = p) (hq : top1 x y = q) (hs : top2 x y = s) (hf : f = y.r + p - s) (hg : g = y.g + q - p) (hb : b = y.b + s - q) : f = (fst x y).r ∧ g = (fst x y).g ∧ b = (fst x y).b := by
  simp only [fst, hp, hq, hs]
  exact ⟨hf, hg, hb⟩
/-- what the pairing leaves of x, of y, and how many pairs reach over, the table x having as many dots or more -/
theorem paired_back {x y : Tb} (hx : 0 ≤ x.r ∧ 0 ≤ x.g ∧ 0 ≤ x.b) (hy : 0 ≤ y.r ∧ 0 ≤ y.g ∧ 0 ≤ y.b) (h : y.sum ≤ x.sum)
    {p1 p2 p3 p4 p5 p6 p7 p8 p9 : Int}
    (e1 : p1 = min x.b y.r) (e2 : p2 = min x.g (y.r - p1)) (e3 : p3 = min x.r (y.r - p1 - p2))
    (e4 : p4 = min (x.r - p3) y.g) (e5 : p5 = min (x.b - p1) (y.g - p4)) (e6 : p6 = min (x.g - p2) (y.g - p4 - p5))
    (e7 : p7 = min (x.g - p2 - p6) y.b) (e8 : p8 = min (x.r - p3 - p4) (y.b - p7)) (e9 : p9 = min (x.b - p1 - p5) (y.b - p7 - p8)) :
    x.r - (x.r - p3 - p4 - p8) + (y.r - p1 - p2 - p3) = (fst x y).r ∧ x.g - (x.g - p2 - p6 - p7) + (y.g - p4 - p5 - p6) = (fst x y).g ∧ x.b - (x.b - p1 - p5 - p9) + (y.b - p7 - p8 - p9) = (fst x y).b
    ∧ p1 + p2 + p3 + p5 + p6 + p9 = top2 x y - max x.sum y.sum := by
  rw [Int.max_eq_left h]
  obtain ⟨xr, xg, xb⟩ := x
  obtain ⟨yr, yg, yb⟩ := y
  simp only [Tb.sum] at *
  obtain ⟨x1, x2, x3⟩ := hx
  obtain ⟨y1, y2, y3⟩ := hy
  obtain ⟨a1, a2, a3, a4, a5, a6, a7, ca, da⟩ := take3 x3 x2 x1 y1 (by lia) e1 e2 e3
  clear e1 e2 e3
  obtain ⟨b1, b2, b3, b4, b5, b6, b7, cb, db⟩ := take3 (by lia) (by lia) (by lia) y2 (by lia) e4 e5 e6
  clear e4 e5 e6
  obtain ⟨c1, c2, c3, c4, c5, c6, c7, cc, dc⟩ := take3 (by lia) (by lia) (by lia) y3 (by lia) e7 e8 e9
  clear e7 e8 e9 h x1 x2 x3 y1 y2 y3
  subst a4; subst b4; subst c4
  have hs : top2 ⟨xr, xg, xb⟩ ⟨p1 + p2 + p3, p4 + p5 + p6, p7 + p8 + p9⟩ = xr + xg + xb + (p1 + p2 + p3 + p5 + p6 + p9) := by
    apply top2_eq <;> simp only
    · clear ca da cb db cc dc; lia
    · clear ca da cb db cc dc; lia
    · clear ca da cb db cc dc; lia
    · rcases cc with ⟨-, h9⟩ | h7
      · rcases cb with ⟨h5, h6⟩ | h4
        · exact .inl (by clear ca da db dc; lia)
        · rcases da with h3 | h2
          · exact .inr (.inl (by clear ca db dc; lia))
          · rcases ca with ⟨_, h3⟩ | h1
            · exact .inr (.inl (by clear db dc; lia))
            · exact .inl (by clear db dc; lia)
      · rcases dc with h9 | h8
        · rcases cb with ⟨h5, h6⟩ | h4
          · exact .inl (by clear ca da db; lia)
          · rcases da with h3 | h2
            · exact .inr (.inl (by clear ca db; lia))
            · rcases ca with ⟨_, h3⟩ | h1
              · exact .inr (.inl (by clear db; lia))
              · exact .inl (by clear db; lia)
        · by_cases h9 : p9 = 0
          · rcases cb with ⟨h5, h6⟩ | h4
            · exact .inl (by clear ca da db; lia)
            · rcases da with h3 | h2
              · exact .inr (.inl (by clear ca db; lia))
              · rcases ca with ⟨_, h3⟩ | h1
                · exact .inr (.inl (by clear db; lia))
                · exact .inl (by clear db; lia)
          · have q1 : p2 = 0 ∧ p3 = 0 := by clear da cb db h7 h8; rcases ca with k | k <;> lia
            have q2 : p6 = 0 := by clear ca da cb h7 h8; rcases db with k | k <;> lia
            exact .inr (.inr (by clear ca da cb db; lia))
  have hp : top0 ⟨xr, xg, xb⟩ ⟨p1 + p2 + p3, p4 + p5 + p6, p7 + p8 + p9⟩ = xr + xg + xb + (p4 + p5 + p6) + p3 + p8 + p9 := by
    apply top0_eq <;> simp only
    · clear ca da cb db cc dc; lia
    · clear ca da cb db cc dc; lia
    · clear ca da cb db cc dc; lia
    · by_cases h3 : p3 = 0
      · rcases cc with ⟨h8, h9⟩ | h7
        · exact .inl (by clear ca da cb db dc; lia)
        · by_cases h6 : p6 = 0
          · rcases ca with ⟨h2, _⟩ | h1
            · exact .inr (.inl (by clear da cb db dc; lia))
            · exact .inr (.inr (by clear da cb db dc; lia))
          · have q1 : p4 = xr - p3 := by clear ca da db dc; rcases cb with k | k <;> lia
            have q2 : p5 = xb - p1 := by clear ca da cb dc; rcases db with k | k <;> lia
            exact .inl (by clear ca da cb db dc; lia)
      · have q1 : p1 = xb := by clear da cb db cc dc; rcases ca with k | k <;> lia
        have q2 : p2 = xg := by clear ca cb db cc dc; rcases da with k | k <;> lia
        exact .inr (.inr (by clear ca da cb db cc dc; lia))
  have hq : top1 ⟨xr, xg, xb⟩ ⟨p1 + p2 + p3, p4 + p5 + p6, p7 + p8 + p9⟩ = xr + xg + xb + (p7 + p8 + p9) + p2 + p3 + p6 := by
    apply top1_eq <;> simp only
    · clear ca da cb db cc dc; lia
    · clear ca da cb db cc dc; lia
    · clear ca da cb db cc dc; lia
    · by_cases h6 : p6 = 0
      · rcases ca with ⟨h2, h3⟩ | h1
        · exact .inl (by clear da cb db cc dc; lia)
        · exact .inr (.inl (by clear da cb db cc dc; lia))
      · have q1 : p4 = xr - p3 := by clear ca da db cc dc; rcases cb with k | k <;> lia
        have q2 : p5 = xb - p1 := by clear ca da cb cc dc; rcases db with k | k <;> lia
        have q3 : p3 = 0 := by clear ca cb db cc dc; rcases da with k | k <;> lia
        exact .inr (.inr (by clear ca da cb db cc dc; lia))
  rw [hs]
  obtain ⟨u, v, w⟩ := fst_of (x := ⟨xr, xg, xb⟩) (y := ⟨p1 + p2 + p3, p4 + p5 + p6, p7 + p8 + p9⟩) (f := p3 + p4 + p8) (g := p2 + p6 + p7) (b := p1 + p5 + p9) hp hq hs (by simp only; lia) (by simp only; lia) (by simp only; lia)
  rw [← u, ← v, ← w]
  refine ⟨?_, ?_, ?_, ?_⟩ <;> (clear ca da cb db cc dc u v w hp hq hs; lia)
theorem paired_forth {x y : Tb} (hx : 0 ≤ x.r ∧ 0 ≤ x.g ∧ 0 ≤ x.b) (hy : 0 ≤ y.r ∧ 0 ≤ y.g ∧ 0 ≤ y.b) (h : x.sum ≤ y.sum)
    {p1 p2 p3 p4 p5 p6 p7 p8 p9 : Int}
    (e1 : p1 = min y.g x.r) (e2 : p2 = min y.b (x.r - p1)) (e3 : p3 = min y.r (x.r - p1 - p2))
    (e4 : p4 = min (y.b - p2) x.g) (e5 : p5 = min (y.r - p3) (x.g - p4)) (e6 : p6 = min (y.g - p1) (x.g - p4 - p5))
    (e7 : p7 = min (y.r - p3 - p5) x.b) (e8 : p8 = min (y.g - p1 - p6) (x.b - p7)) (e9 : p9 = min (y.b - p2 - p4) (x.b - p7 - p8)) :
    x.r - (x.r - p1 - p2 - p3) + (y.r - p3 - p5 - p7) = (fst x y).r ∧ x.g - (x.g - p4 - p5 - p6) + (y.g - p1 - p6 - p8) = (fst x y).g ∧ x.b - (x.b - p7 - p8 - p9) + (y.b - p2 - p4 - p9) = (fst x y).b
    ∧ p3 + p5 + p6 + p7 + p8 + p9 = top2 x y - max x.sum y.sum := by
  rw [Int.max_eq_right h]
  obtain ⟨xr, xg, xb⟩ := x
  obtain ⟨yr, yg, yb⟩ := y
  simp only [Tb.sum] at *
  obtain ⟨x1, x2, x3⟩ := hx
  obtain ⟨y1, y2, y3⟩ := hy
  obtain ⟨a1, a2, a3, a4, a5, a6, a7, ca, da⟩ := take3 y2 y3 y1 x1 (by lia) e1 e2 e3
  clear e1 e2 e3
  obtain ⟨b1, b2, b3, b4, b5, b6, b7, cb, db⟩ := take3 (by lia) (by lia) (by lia) x2 (by lia) e4 e5 e6
  clear e4 e5 e6
  obtain ⟨c1, c2, c3, c4, c5, c6, c7, cc, dc⟩ := take3 (by lia) (by lia) (by lia) x3 (by lia) e7 e8 e9
  clear e7 e8 e9 h x1 x2 x3 y1 y2 y3
  subst a4; subst b4; subst c4
  have hs : top2 ⟨p1 + p2 + p3, p4 + p5 + p6, p7 + p8 + p9⟩ ⟨yr, yg, yb⟩ = yr + yg + yb + (p3 + p5 + p6 + p7 + p8 + p9) := by
    apply top2_eq <;> simp only
    · clear ca da cb db cc dc; lia
    · clear ca da cb db cc dc; lia
    · clear ca da cb db cc dc; lia
    · by_cases h3 : p3 = 0
      · rcases cb with ⟨h5, h6⟩ | h4
        · exact .inr (.inr (by clear ca da db cc dc; lia))
        · rcases ca with ⟨h2, _⟩ | h1
          · exact .inr (.inl (by clear da db cc dc; lia))
          · exact .inl (by clear da db cc dc; lia)
      · have q1 : p1 = yg := by clear da cb db cc dc; rcases ca with k | k <;> lia
        have q2 : p2 = yb := by clear ca cb db cc dc; rcases da with k | k <;> lia
        exact .inl (by clear ca da cb db cc dc; lia)
  have hp : top0 ⟨p1 + p2 + p3, p4 + p5 + p6, p7 + p8 + p9⟩ ⟨yr, yg, yb⟩ = yr + yg + yb + (p1 + p2 + p3) + p6 + p8 + p9 := by
    apply top0_eq <;> simp only
    · clear ca da cb db cc dc; lia
    · clear ca da cb db cc dc; lia
    · clear ca da cb db cc dc; lia
    · by_cases h6 : p6 = 0
      · rcases cc with ⟨h8, h9⟩ | h7
        · exact .inr (.inr (by clear ca da cb db dc; lia))
        · by_cases h3 : p3 = 0
          · rcases cb with ⟨h5, _⟩ | h4
            · exact .inr (.inl (by clear ca da db dc; lia))
            · rcases ca with ⟨h2, _⟩ | h1
              · exact .inl (by clear da db dc; lia)
              · exact .inr (.inr (by clear da db dc; lia))
          · have q1 : p1 = yg := by clear da cb db dc; rcases ca with k | k <;> lia
            have q2 : p2 = yb := by clear ca cb db dc; rcases da with k | k <;> lia
            exact .inr (.inr (by clear ca da cb db dc; lia))
      · have q1 : p4 = yb - p2 := by clear ca da db cc dc; rcases cb with k | k <;> lia
        have q2 : p5 = yr - p3 := by clear ca da cb cc dc; rcases db with k | k <;> lia
        have q3 : p2 = 0 ∧ p3 = 0 := by clear da cb db cc dc; rcases ca with k | k <;> lia
        exact .inl (by clear ca da cb db cc dc; lia)
  have hq : top1 ⟨p1 + p2 + p3, p4 + p5 + p6, p7 + p8 + p9⟩ ⟨yr, yg, yb⟩ = yr + yg + yb + (p4 + p5 + p6) + p2 + p3 + p9 := by
    apply top1_eq <;> simp only
    · clear ca da cb db cc dc; lia
    · clear ca da cb db cc dc; lia
    · clear ca da cb db cc dc; lia
    · by_cases h9 : p9 = 0
      · rcases ca with ⟨h2, h3⟩ | h1
        · exact .inr (.inr (by clear da cb db cc dc; lia))
        · exact .inr (.inl (by clear da cb db cc dc; lia))
      · have q1 : p8 = yg - p1 - p6 := by clear ca da cb db cc; rcases dc with k | k <;> lia
        have q2 : p7 = yr - p3 - p5 := by clear ca da cb db dc; rcases cc with k | k <;> lia
        have q3 : p5 = 0 ∧ p6 = 0 := by clear ca da db cc dc; rcases cb with k | k <;> lia
        have q4 : p3 = 0 := by clear ca cb db cc dc; rcases da with k | k <;> lia
        exact .inl (by clear ca da cb db cc dc; lia)
  rw [hs]
  obtain ⟨u, v, w⟩ := fst_of (x := ⟨p1 + p2 + p3, p4 + p5 + p6, p7 + p8 + p9⟩) (y := ⟨yr, yg, yb⟩) (f := p1 + p2 + p3 + (yr - p3 - p5 - p7)) (g := p4 + p5 + p6 + (yg - p1 - p6 - p8)) (b := p7 + p8 + p9 + (yb - p2 - p4 - p9)) hp hq hs (by simp only; lia) (by simp only; lia) (by simp only; lia)
  rw [← u, ← v, ← w]
  refine ⟨?_, ?_, ?_, ?_⟩ <;> (clear ca da cb db cc dc u v w hp hq hs; lia)
end Mine
namespace Mine
open PySem PySem.W PySem.W.X PySem.Calls PySem.Spec
theorem end2_of {ks : List Nat} {o : Out} {P : Prop} {q : List (Addr × Nat)} {r : Result} {m i : Nat} {obs : List (Option Obj)} (h : endOf ks o = some (P, q, r, m, i, obs)) : end2 ks o = some (P, q, r, m, obs) := by
  cases o with
  | stop => cases h
  | done => cases h; rfl
theorem accs_ok (E : Ev) (n ts : Nat) : accsOk E (exps E n ts []) := exps_ok n ts [] fun p hp => by cases hp
section
variable {kt : Params → KT} {prog : Program} {w : World}
theorem mono_of {ad : Nat → Addr} (h : ∀ j, ad (j + 1) = ad j + 1) : ∀ i j, i < j → ad i < ad j := by
  intro i j hij
  induction j with
  | zero => lia
  | succ j ih =>
    rw [h j]
    rcases Nat.lt_or_ge i j with q | q
    · exact Nat.lt_succ_of_lt (ih q)
    · have : i = j := by lia
      subst this; exact Nat.lt_succ_self _
/-- a run told for any start is a contract -/
theorem contract (js : Code → Bool) {dep lim : Nat} (hlim : lim ≤ dep) {b : Bool} (hb : parB b w.params = w.params) {ad : Nat → Addr} {argsF : Nat → Option (Addr × Obj)} {t₀ i n : Nat} {c : Code} {os : List Orc} {ts : Nat} {ks : List Nat}
    {F : Prop} {q : List (Addr × Nat)} {v : Value} {m' : Nat} {obs : List (Option Obj)}
    (e : end2 ks (runC (hkG js 700 (GivenOk prog w (kt w.params).get 700)) (evC kt prog (parB b w.params) ad argsF (t₀ + i) dep) n c os ts) = some (F, q, .ok (.ret v), m', obs))
    (hF : F) (hq : accsOk (evC kt prog (parB b w.params) ad argsF (t₀ + i) dep) q) (had : ∀ j, ad (j + 1) = ad j + 1) :
    ∃ (ι : Nat) (T : GT), getAll T ks = obs ∧ ∀ (adO : Nat → Addr) (args : List (Addr × Obj)) (m : Nat) (objs : List (Nat × Obj)),
      (∀ k a o, argsF k = some (a, o) → (a, o) ∈ args) → adO 0 = ad 0 → adO m = ad m' → (∀ p ∈ objs, ∃ k, T.get k = some p.2 ∧ adO p.1 = ad k) →
      GivenOk prog w (kt w.params).get lim adO ⟨prog, w.params⟩ t₀ args c i v (i + ι) m objs := by
  obtain ⟨ι, T, hT, K⟩ := end2_ok (hkX_ok (prog := prog) (w := w) (kt w.params).get js 700) n (evC kt prog (parB b w.params) ad argsF (t₀ + i) dep) c os ts 0 ks e hF hq
  refine ⟨ι, T, hT, fun adO args m objs hargs h0 hm hobj => ?_⟩
  intro _ A h g d ox R hA hdep hun hl hsz htop ha hR
  have hev : EvOk prog w (kt w.params).get (evC kt prog (parB b w.params) ad argsF (t₀ + i) dep) A h := by
    rw [hb]
    exact { size := hsz.trans h0, mono := mono_of had, step := fun j _ => had j, old := htop, args := fun k a o x => ha (a, o) (hargs k a o x), st := rfl, lim := hl,
            top := htop, hand := hA, dep := Nat.le_trans hdep hlim, un := Nat.le_trans hun hlim }
  have z := K A R h g d ox hev fun h' D => by
    have y := hR h' (by rw [D.size]; exact hm.symm) D.keep fun p hp => by
      obtain ⟨k, hk, hk2⟩ := hobj p hp
      rw [hk2]
      exact (D.own k _ hk).2
    show R _ ⟨h', g, d, t₀ + i + ι, ox⟩
    rw [Nat.add_assoc]
    exact y
  exact z
end
theorem par_of (P : Params) : ∃ b, parB b P = P := ⟨_, parB_is P⟩
end Mine
namespace Mine
open PySem PySem.W PySem.W.X PySem.Calls PySem.Spec
section
variable {kt : Params → KT} {prog : Program} {w : World}
theorem arg1_mem {a : Addr} {o : Obj} : ∀ k a' o', arg1 a o k = some (a', o') → (a', o') ∈ [(a, o)] := by
  intro k a' o' h
  cases k with
  | zero => cases h; exact .head _
  | succ k => cases h
theorem arg2_mem {a b : Addr} {o u : Obj} : ∀ k a' o', arg2 a o b u k = some (a', o') → (a', o') ∈ [(a, o), (b, u)] := by
  intro k a' o' h
  match k with
  | 0 => cases h; exact .head _
  | 1 => cases h; exact .tail _ (.head _)
  | _ + 2 => cases h
structure RawG (kt : Params → KT) : Prop where
  g0 : ∀ k, k < 7 → Gr0 kt k
  g1 : ∀ k, k < 4 → Gr1 kt k
theorem greatest_ok (H : RawG kt) {a b c : Nat} (T : Tri a b c) {rd : Int} {mm : Nat} (hrd : (rd = 0 ∧ mm = 21) ∨ (rd = 1 ∧ mm = 16)) (adO : Nat → Addr) (had : ∀ j, j ≤ mm → adO j = adO 0 + j) (t₀ i : Nat) (l : Addr) (v₀ v₁ v₂ tr : Nat) :
    ∃ τ ι, GivenOk prog w (kt w.params).get 700 adO ⟨prog, w.params⟩ t₀ [(l, lst3 (Int.ofNat a) (Int.ofNat b) (Int.ofNat c) v₀ v₁ v₂)] (.call (.ref 83) ⟨[.ref l, .int rd tr], []⟩) i (.int (Int.ofNat (mxN a b c)) τ) ι mm [] := by
  obtain ⟨x, hx⟩ := par_of w.params
  have hc : ∀ j, (fun n => adO 0 + n) (j + 1) = (fun n => adO 0 + n) j + 1 := fun j => rfl
  rcases hrd with ⟨rfl, rfl⟩ | ⟨rfl, rfl⟩
  · obtain ⟨k, u, hk, hf⟩ := facts0_ok T
    have e := H.g0 k hk x w.params prog (GivenOk prog w (kt w.params).get 700) (fun n => adO 0 + n) l (Int.ofNat a) (Int.ofNat b) (Int.ofNat c) v₀ v₁ v₂ (t₀ + i) tr u (Int.ofNat (mxN a b c))
    obtain ⟨ι, T, _, K⟩ := contract noJs (Nat.le_refl 700) hx (end2_of e) (andL_of trivial hf) (accs_ok _ _ _) hc
    exact ⟨_, _, K adO _ 21 [] arg1_mem rfl (had 21 (Nat.le_refl _)) fun p hp => by cases hp⟩
  · obtain ⟨k, u, p, τ, hk, hf⟩ := facts1_ok v₀ v₁ v₂ T
    have e := H.g1 k hk x w.params prog (GivenOk prog w (kt w.params).get 700) (fun n => adO 0 + n) l (Int.ofNat a) (Int.ofNat b) (Int.ofNat c) v₀ v₁ v₂ (t₀ + i) tr u p (.int (Int.ofNat (mxN a b c)) τ)
    obtain ⟨ι, T, _, K⟩ := contract noJs (Nat.le_refl 700) hx (end2_of e) (andL_of trivial hf) (accs_ok _ _ _) hc
    exact ⟨_, _, K adO _ 16 [] arg1_mem rfl (had 16 (Nat.le_refl _)) fun p hp => by cases hp⟩
end
end Mine
namespace Mine
open PySem PySem.W PySem.W.X PySem.Calls PySem.Spec
theorem stripV_str {v : Value} {s : Str} (h : stripV v = .str s 0) : ∃ t, v = .str s t := by
  cases v <;> first | (cases h; done) | (cases h; exact ⟨_, rfl⟩)
theorem stripV_int {v : Value} {i : Int} (h : stripV v = .int i 0) : ∃ t, v = .int i t := by
  cases v <;> first | (cases h; done) | (cases h; exact ⟨_, rfl⟩)
theorem stripV_ref {v : Value} {a : Addr} (h : stripV v = .ref a) : v = .ref a := by
  cases v <;> first | (cases h; done) | exact h
theorem stripEs_cons {es : List DictEntry} {e : DictEntry} {l : List DictEntry} (h : stripEs es = e :: l) : ∃ f r, es = f :: r ∧ stripV f.key = e.key ∧ stripV f.val = e.val ∧ stripEs r = l := by
  cases es with
  | nil => cases h
  | cons f r =>
    obtain ⟨q, k, v⟩ := f
    cases h
    exact ⟨_, _, rfl, rfl, rfl, rfl⟩
theorem stripEs_nil {es : List DictEntry} (h : stripEs es = []) : es = [] := by
  cases es with
  | nil => rfl
  | cons f r => cases h
theorem stripVs_cons {es : List Value} {e : Value} {l : List Value} (h : stripVs es = e :: l) : ∃ f r, es = f :: r ∧ stripV f = e ∧ stripVs r = l := by
  cases es with
  | nil => cases h
  | cons f r => cases h; exact ⟨_, _, rfl, rfl, rfl⟩
theorem stripVs_nil {es : List Value} (h : stripVs es = []) : es = [] := by
  cases es with
  | nil => rfl
  | cons f r => cases h
theorem stripQ_some {o : Option Obj} {x : Obj} (h : stripQ o = some x) : ∃ y, o = some y ∧ stripO y = x := by
  cases o with
  | none => cases h
  | some y => cases h; exact ⟨y, rfl, rfl⟩
theorem stripD_dict {d : Data} {es : List DictEntry} {n : Nat} (h : stripD d = .dict ⟨es⟩ n) : ∃ fs, d = .dict ⟨fs⟩ n ∧ stripEs fs = es := by
  cases d with
  | dict a m => obtain ⟨fs⟩ := a; cases h; exact ⟨fs, rfl, rfl⟩
  | seq a m => obtain ⟨fs⟩ := a; cases h
  | _ => cases h
theorem stripD_seq {d : Data} {es : List Value} {n : Nat} (h : stripD d = .seq ⟨es⟩ n) : ∃ fs, d = .seq ⟨fs⟩ n ∧ stripVs fs = es := by
  cases d with
  | dict a m => obtain ⟨fs⟩ := a; cases h
  | seq a m => obtain ⟨fs⟩ := a; cases h; exact ⟨fs, rfl, rfl⟩
  | _ => cases h
/-- three of a table's parts of tokens -/
noncomputable def qs3 (a b c : Int) : Nat → Int
  | 0 => a
  | 1 => b
  | _ => c
noncomputable def vs6 (a b c d e f : Nat) : Nat → Nat
  | 0 => a
  | 1 => b
  | 2 => c
  | 3 => d
  | 4 => e
  | _ => f
/-- a table with its hashes and tokens -/
noncomputable def dctF (x : Tb) (q : Nat → Int) (v : Nat → Nat) : Obj := dct3 x.r x.g x.b (q 0) (q 1) (q 2) (v 0) (v 1) (v 2) (v 3) (v 4) (v 5)
theorem un_dct {o : Option Obj} {a b c : Int} (h : stripQ o = some (dct0 a b c)) : ∃ q v, o = some (dctF ⟨a, b, c⟩ q v) := by
  obtain ⟨y, rfl, hy⟩ := stripQ_some h
  obtain ⟨c₁, d, x, s⟩ := y
  have e1 : c₁ = .type "dict" := congrArg Obj.cls hy
  have hx : stripD x = .dict ⟨[⟨0, .str ⟨#[114]⟩ 0, .int a 0⟩, ⟨0, .str ⟨#[103]⟩ 0, .int b 0⟩, ⟨0, .str ⟨#[98]⟩ 0, .int c 0⟩]⟩ 3 := congrArg Obj.data hy
  obtain ⟨fs, rfl, hf⟩ := stripD_dict hx
  obtain ⟨f0, r, rfl, k0, w0, hf⟩ := stripEs_cons hf
  obtain ⟨f1, r, rfl, k1, w1, hf⟩ := stripEs_cons hf
  obtain ⟨f2, r, rfl, k2, w2, hf⟩ := stripEs_cons hf
  cases stripEs_nil hf
  obtain ⟨q0, k0', w0'⟩ := f0
  obtain ⟨q1, k1', w1'⟩ := f1
  obtain ⟨q2, k2', w2'⟩ := f2
  obtain ⟨u0, rfl⟩ := stripV_str k0
  obtain ⟨u1, rfl⟩ := stripV_str k1
  obtain ⟨u2, rfl⟩ := stripV_str k2
  obtain ⟨v0, rfl⟩ := stripV_int w0
  obtain ⟨v1, rfl⟩ := stripV_int w1
  obtain ⟨v2, rfl⟩ := stripV_int w2
  refine ⟨qs3 q0 q1 q2, vs6 u0 v0 u1 v1 u2 v2, ?_⟩
  cases hy
  rfl
theorem un_three {o : Option Obj} {ad : Nat → Addr} {a b : Nat} {n : Int} (h : stripQ o = some (threeO ad a b n)) : ∃ t, o = some (threeV ad a b n t) := by
  obtain ⟨y, rfl, hy⟩ := stripQ_some h
  obtain ⟨c₁, d, x, s⟩ := y
  have hx : stripD x = .seq ⟨[.ref (ad a), .ref (ad b), .int n 0]⟩ 0 := congrArg Obj.data hy
  obtain ⟨fs, rfl, hf⟩ := stripD_seq hx
  obtain ⟨f0, r, rfl, k0, hf⟩ := stripVs_cons hf
  obtain ⟨f1, r, rfl, k1, hf⟩ := stripVs_cons hf
  obtain ⟨f2, r, rfl, k2, hf⟩ := stripVs_cons hf
  cases stripVs_nil hf
  cases stripV_ref k0
  cases stripV_ref k1
  obtain ⟨v2, rfl⟩ := stripV_int k2
  refine ⟨v2, ?_⟩
  cases hy
  rfl
theorem un_refs {o : Option Obj} {n : Nat} {a b c : Addr} (h : stripQ o = some (refs3 n a b c)) : o = some (refs3 n a b c) := by
  obtain ⟨y, rfl, hy⟩ := stripQ_some h
  obtain ⟨c₁, d, x, s⟩ := y
  have hx : stripD x = .seq ⟨[.ref a, .ref b, .ref c]⟩ n := congrArg Obj.data hy
  obtain ⟨fs, rfl, hf⟩ := stripD_seq hx
  obtain ⟨f0, r, rfl, k0, hf⟩ := stripVs_cons hf
  obtain ⟨f1, r, rfl, k1, hf⟩ := stripVs_cons hf
  obtain ⟨f2, r, rfl, k2, hf⟩ := stripVs_cons hf
  cases stripVs_nil hf
  cases stripV_ref k0
  cases stripV_ref k1
  cases stripV_ref k2
  cases hy
  rfl
/-- a table of dots as the roads meet it: t is what the sendings added -/
structure Gd (t : Int) (x : Tb) : Prop where
  r1 : 1 + t ≤ x.r
  g1 : 1 + t ≤ x.g
  b1 : 1 + t ≤ x.b
  s1 : x.sum ≤ 24 + 3 * t
/-- what a call gives back -/
structure G1 where
  y : Nat → Int
  q : Nat → Int
  v : Nat → Nat
  ι : Nat
noncomputable def G1.tab (z : G1) (k : Nat) : Obj := dct3 (z.y (3 * k)) (z.y (3 * k + 1)) (z.y (3 * k + 2)) (z.q (3 * k)) (z.q (3 * k + 1)) (z.q (3 * k + 2)) (z.v (6 * k)) (z.v (6 * k + 1)) (z.v (6 * k + 2)) (z.v (6 * k + 3)) (z.v (6 * k + 4)) (z.v (6 * k + 5))
/-- two tables and a number -/
noncomputable def gOf (x y : Tb) (n : Int) (q q' : Nat → Int) (v v' : Nat → Nat) (t ι : Nat) : G1 where
  y := fun k => match k with
    | 0 => x.r
    | 1 => x.g
    | 2 => x.b
    | 3 => y.r
    | 4 => y.g
    | 5 => y.b
    | _ => n
  q := fun k => match k with
    | 0 => q 0
    | 1 => q 1
    | 2 => q 2
    | 3 => q' 0
    | 4 => q' 1
    | _ => q' 2
  v := fun k => match k with
    | 0 => v 0
    | 1 => v 1
    | 2 => v 2
    | 3 => v 3
    | 4 => v 4
    | 5 => v 5
    | 6 => v' 0
    | 7 => v' 1
    | 8 => v' 2
    | 9 => v' 3
    | 10 => v' 4
    | 11 => v' 5
    | _ => t
  ι := ι
end Mine
namespace Mine
open PySem PySem.W PySem.W.X PySem.Calls PySem.Spec
section
variable {kt : Params → KT} {prog : Program} {w : World}
structure TriI (a b c : Int) : Prop where
  a1 : 1 ≤ a
  b1 : 1 ≤ b
  c1 : 1 ≤ c
  a2 : a ≤ 54
  b2 : b ≤ 54
  c2 : c ≤ 54
  ab : a ≤ b + 21
  ba : b ≤ a + 21
  ac : a ≤ c + 21
  ca : c ≤ a + 21
  bc : b ≤ c + 21
  cb : c ≤ b + 21
theorem greatest_int (H : RawG kt) {a b c : Int} (T : TriI a b c) {rd : Int} {mm : Nat} (hrd : (rd = 0 ∧ mm = 21) ∨ (rd = 1 ∧ mm = 16)) (adO : Nat → Addr) (had : ∀ j, j ≤ mm → adO j = adO 0 + j) (t₀ i : Nat) (l : Addr) (v₀ v₁ v₂ tr : Nat) :
    ∃ τ ι, GivenOk prog w (kt w.params).get 700 adO ⟨prog, w.params⟩ t₀ [(l, lst3 a b c v₀ v₁ v₂)] (.call (.ref 83) ⟨[.ref l, .int rd tr], []⟩) i (.int (mx3 a b c) τ) ι mm [] := by
  obtain ⟨a1, b1, c1, a2, b2, c2, ab, ba, ac, ca, bc, cb⟩ := T
  obtain ⟨a', rfl⟩ : ∃ n : Nat, a = (n : Int) := ⟨a.toNat, (Int.toNat_of_nonneg (by lia)).symm⟩
  obtain ⟨b', rfl⟩ : ∃ n : Nat, b = (n : Int) := ⟨b.toNat, (Int.toNat_of_nonneg (by lia)).symm⟩
  obtain ⟨c', rfl⟩ : ∃ n : Nat, c = (n : Int) := ⟨c.toNat, (Int.toNat_of_nonneg (by lia)).symm⟩
  have e : mx3 (a' : Int) (b' : Int) (c' : Int) = ((mxN a' b' c' : Nat) : Int) := by unfold mx3 mxN; lia
  rw [e]
  exact greatest_ok H (a := a') (b := b') (c := c') ⟨by lia, by lia, by lia, by lia, by lia, by lia, by lia, by lia, by lia, by lia, by lia, by lia⟩ hrd adO had t₀ i l v₀ v₁ v₂ tr
theorem tri0 {t : Int} (h0 : 0 ≤ t) (h2 : t ≤ 2) {x y : Tb} (gx : Gd t x) (gy : Gd t y) : TriI (x.sum + y.g) (x.b + x.r + y.g + y.b) (x.r + y.sum) := by
  obtain ⟨x1, x2, x3, x4⟩ := gx
  obtain ⟨y1, y2, y3, y4⟩ := gy
  unfold Tb.sum at *
  constructor <;> lia
theorem tri1 {t : Int} (h0 : 0 ≤ t) (h2 : t ≤ 2) {x y : Tb} (gx : Gd t x) (gy : Gd t y) : TriI (x.sum + y.b) (x.r + x.g + y.b + y.r) (x.g + y.sum) := by
  obtain ⟨x1, x2, x3, x4⟩ := gx
  obtain ⟨y1, y2, y3, y4⟩ := gy
  unfold Tb.sum at *
  constructor <;> lia
theorem tri2 {t : Int} (h0 : 0 ≤ t) (h2 : t ≤ 2) {x y : Tb} (gx : Gd t x) (gy : Gd t y) : TriI (x.sum + y.r) (x.g + x.b + y.r + y.g) (x.b + y.sum) := by
  obtain ⟨x1, x2, x3, x4⟩ := gx
  obtain ⟨y1, y2, y3, y4⟩ := gy
  unfold Tb.sum at *
  constructor <;> lia
/-- what an exchange tells -/
structure Told (r : G1) (x y : Tb) : Prop where
  r0 : r.y 0 = (fst x y).r
  g0 : r.y 1 = (fst x y).g
  b0 : r.y 2 = (fst x y).b
  r1 : r.y 3 = (snd x y).r
  g1 : r.y 4 = (snd x y).g
  b1 : r.y 5 = (snd x y).b
  n : r.y 6 = top2 x y - max x.sum y.sum
theorem told_of (x y : Tb) (q q' : Nat → Int) (v v' : Nat → Nat) (t ι : Nat) : Told (gOf (fst x y) (snd x y) (top2 x y - max x.sum y.sum) q q' v v' t ι) x y := ⟨rfl, rfl, rfl, rfl, rfl, rfl, rfl⟩
noncomputable def bareOf (q q' : Nat → Int) (v v' : Nat → Nat) : Bare where
  q := fun k => match k with
    | 0 => q 0
    | 1 => q 1
    | 2 => q 2
    | 3 => q' 0
    | 4 => q' 1
    | _ => q' 2
  v := fun k => match k with
    | 0 => v 0
    | 1 => v 1
    | 2 => v 2
    | 3 => v 3
    | 4 => v 4
    | 5 => v 5
    | 6 => v' 0
    | 7 => v' 1
    | 8 => v' 2
    | 9 => v' 3
    | 10 => v' 4
    | _ => v' 5
noncomputable def twoOf (x y : Tb) : Two := ⟨x.r, x.g, x.b, y.r, y.g, y.b⟩
theorem max_of (a b : Int) : max a b = bif better false a b then b else a := by
  show _ = bif decide (b > a) then b else a
  rw [cif]
  split <;> lia
theorem min_of (a b : Int) : min a b = bif better true a b then b else a := by
  show _ = bif decide (b < a) then b else a
  rw [cif]
  split <;> lia
theorem exch_of (H : RawG kt) {mm tg : Nat} (HE : ExR kt mm tg) {rd : Int} (hrd : (rd = 0 ∧ mm = 21) ∨ (rd = 1 ∧ mm = 16)) {t : Int} (h0 : 0 ≤ t) (h2 : t ≤ 2) {x y : Tb} (gx : Gd t x) (gy : Gd t y)
    (adO : Nat → Addr) (had : ∀ j, j ≤ 3 * mm + 86 → adO j = adO 0 + j) (t₀ i tr : Nat) {a a' : Addr} (ha : 2 ≤ a) (ha' : 2 ≤ a') (q q' : Nat → Int) (v v' : Nat → Nat) :
    ∃ r : G1, Told r x y ∧ GivenOk prog w (kt w.params).get 600 adO ⟨prog, w.params⟩ t₀ [(a, dctF x q v), (a', dctF y q' v')] (.call (.ref 88) ⟨[.ref a, .ref a', .int rd tr], []⟩) i (.ref (adO (3 * mm + 85))) r.ι (3 * mm + 86)
      [(3 * mm + 85, threeV adO (3 * mm + 71) (3 * mm + 76) (r.y 6) (r.v 12)), (3 * mm + 71, r.tab 0), (3 * mm + 76, r.tab 1)] := by
  obtain ⟨a, rfl⟩ : ∃ b, a = b + 2 := ⟨a - 2, (Nat.sub_add_cancel ha).symm⟩
  obtain ⟨a', rfl⟩ : ∃ b, a' = b + 2 := ⟨a' - 2, (Nat.sub_add_cancel ha').symm⟩
  obtain ⟨s, hs⟩ := par_of w.params
  have hc : ∀ j, (fun n => adO 0 + n) (j + 1) = (fun n => adO 0 + n) j + 1 := fun j => rfl
  have add_had : ∀ (k m' : Nat) j, j ≤ m' → (fun n => adO 0 + (k + n)) j = (fun n => adO 0 + (k + n)) 0 + j := fun k m' j _ => (Nat.add_assoc (adO 0) k j).symm
  have T0 := tri0 h0 h2 gx gy
  have T1 := tri1 h0 h2 gx gy
  have T2 := tri2 h0 h2 gx gy
  have sx : (twoOf x y).X = x.sum := by show 0 + x.r + x.g + x.b = _; unfold Tb.sum; lia
  have sy : (twoOf x y).Y = y.sum := by show 0 + y.r + y.g + y.b = _; unfold Tb.sum; lia
  obtain ⟨τ0, ι0, K0⟩ := greatest_int (prog := prog) (w := w) H T0 hrd (fun n => adO 0 + (65 + n)) (add_had 65 mm) (t₀ + i) 101 (adO 0 + 64) (t₀ + i + 96) (t₀ + i + 99) (t₀ + i + 100) tr
  obtain ⟨τ1, ι1, K1⟩ := greatest_int (prog := prog) (w := w) H T1 hrd (fun n => adO 0 + (66 + mm + n)) (add_had (66 + mm) mm) (t₀ + i) (ι0 + 17) (adO 0 + (65 + mm)) (t₀ + i + (ι0 + 12)) (t₀ + i + (ι0 + 15)) (t₀ + i + (ι0 + 16)) tr
  obtain ⟨τ2, ι2, K2⟩ := greatest_int (prog := prog) (w := w) H T2 hrd (fun n => adO 0 + (67 + 2 * mm + n)) (add_had (67 + 2 * mm) mm) (t₀ + i) (ι1 + 17) (adO 0 + (66 + 2 * mm)) (t₀ + i + (ι1 + 12)) (t₀ + i + (ι1 + 15)) (t₀ + i + (ι1 + 16)) tr
  let p : Nat → Int := fun k => match k with
    | 0 => top0 x y
    | 1 => top1 x y
    | 2 => top2 x y
    | _ => max x.sum y.sum
  let τ : Nat → Nat := fun k => match k with
    | 0 => τ0
    | 1 => τ1
    | _ => τ2
  let ι : Nat → Nat := fun k => match k with
    | 0 => ι0
    | 1 => ι1
    | _ => ι2
  have e := HE s w.params prog (GivenOk prog w (kt w.params).get 700) (fun n => adO 0 + n) a a' (twoOf x y) (bareOf q q' v v') (t₀ + i) tr rd p τ ι
  have f0 : factG (GivenOk prog w (kt w.params).get 700) s w.params prog (fun n => adO 0 + n) (t₀ + i) 65 64 ((twoOf x y).l₀ (t₀ + i)) rd tr 101 (.int (p 0) (τ 0)) (ι 0) mm := by
    refine ⟨⟨⟨by lia, rfl⟩, trivial⟩, ?_⟩
    rw [hs]
    have el : (twoOf x y).l₀ (t₀ + i) = lst3 (x.sum + y.g) (x.b + x.r + y.g + y.b) (x.r + y.sum) (t₀ + i + 96) (t₀ + i + 99) (t₀ + i + 100) := by
      unfold Two.l₀; rw [sx, sy]; rfl
    rw [el]
    exact K0
  have f1 : factG (GivenOk prog w (kt w.params).get 700) s w.params prog (fun n => adO 0 + n) (t₀ + i) (66 + mm) (65 + mm) ((twoOf x y).l₁ (t₀ + i) (ι 0)) rd tr (ι 0 + 17) (.int (p 1) (τ 1)) (ι 1) mm := by
    refine ⟨⟨⟨by lia, rfl⟩, trivial⟩, ?_⟩
    rw [hs]
    have el : (twoOf x y).l₁ (t₀ + i) (ι 0) = lst3 (x.sum + y.b) (x.r + x.g + y.b + y.r) (x.g + y.sum) (t₀ + i + (ι0 + 12)) (t₀ + i + (ι0 + 15)) (t₀ + i + (ι0 + 16)) := by
      unfold Two.l₁; rw [sx, sy]; rfl
    rw [el]
    exact K1
  have f2 : factG (GivenOk prog w (kt w.params).get 700) s w.params prog (fun n => adO 0 + n) (t₀ + i) (67 + 2 * mm) (66 + 2 * mm) ((twoOf x y).l₂ (t₀ + i) (ι 1)) rd tr (ι 1 + 17) (.int (p 2) (τ 2)) (ι 2) mm := by
    refine ⟨⟨⟨by lia, rfl⟩, trivial⟩, ?_⟩
    rw [hs]
    have el : (twoOf x y).l₂ (t₀ + i) (ι 1) = lst3 (x.sum + y.r) (x.g + x.b + y.r + y.g) (x.b + y.sum) (t₀ + i + (ι1 + 12)) (t₀ + i + (ι1 + 15)) (t₀ + i + (ι1 + 16)) := by
      unfold Two.l₂; rw [sx, sy]; rfl
    rw [el]
    exact K2
  have hp3 : p 3 = bif better false (twoOf x y).X (twoOf x y).Y then (twoOf x y).Y else (twoOf x y).X := by
    rw [sx, sy]; exact max_of _ _
  obtain ⟨κ, T, hT, K⟩ := contract jsG (by decide : 600 ≤ 600) hs (end2_of e) (andL_of trivial (all_cons rfl (all_cons rfl (all_cons rfl (all_cons rfl (all_cons rfl (all_cons rfl (all_cons f0 (all_cons f1 (all_cons f2 (all_cons ⟨rfl, hp3⟩ (by simp)))))))))))) (accs_ok _ _ _) hc
  simp only [getAll, List.cons.injEq, and_true] at hT
  obtain ⟨o0, o1, o2⟩ := hT
  obtain ⟨tk, o0⟩ := un_three o0
  obtain ⟨qa, va, o1⟩ := un_dct o1
  obtain ⟨qb, vb, o2⟩ := un_dct o2
  refine ⟨gOf (fst x y) (snd x y) (top2 x y - max x.sum y.sum) qa qb va vb tk (i + κ), told_of .., ?_⟩
  have z := K adO [(a + 2, dctF x q v), (a' + 2, dctF y q' v')] (3 * mm + 86)
    [(3 * mm + 85, threeV adO (3 * mm + 71) (3 * mm + 76) (top2 x y - max x.sum y.sum) tk), (3 * mm + 71, dctF (fst x y) qa va), (3 * mm + 76, dctF (snd x y) qb vb)]
    arg2_mem rfl (had _ (Nat.le_refl _)) (by
      have h71 := had (3 * mm + 71) (by lia)
      have h76 := had (3 * mm + 76) (by lia)
      have h85 := had (3 * mm + 85) (by lia)
      intro p hp
      simp only [List.mem_cons, List.not_mem_nil, or_false] at hp
      rcases hp with rfl | rfl | rfl
      · refine ⟨3 * mm + 85, ?_, h85⟩
        rw [o0]
        show some (threeV (fun n => adO 0 + n) (3 * mm + 71) (3 * mm + 76) _ tk) = some (threeV adO (3 * mm + 71) (3 * mm + 76) _ tk)
        unfold threeV
        rw [h71, h76]
        rfl
      · exact ⟨3 * mm + 71, o1, h71⟩
      · exact ⟨3 * mm + 76, o2, h76⟩)
  have h85 := had (3 * mm + 85) (by lia)
  rw [h85]
  exact z
end
end Mine
namespace Mine
open PySem PySem.W PySem.W.X PySem.Calls PySem.Spec
section
variable {kt : Params → KT} {prog : Program} {w : World}
theorem mnF_of {p a b : Int} (h : p = min a b) : mnF p a b := ⟨rfl, h.trans (min_of a b)⟩
theorem fit_of {t : Int} (h0 : 0 ≤ t) (h2 : t ≤ 2) {x : Tb} (g : Gd t x) : ∀ A ∈ fit3 x.r x.g x.b, A := by
  obtain ⟨x1, x2, x3, x4⟩ := g
  unfold Tb.sum at x4
  unfold fit3 inR
  refine all_cons ⟨by lia, by lia⟩ (all_cons ⟨by lia, by lia⟩ (all_cons ⟨by lia, by lia⟩ (by simp)))
/-- the nine pairs -/
noncomputable def prs (p0 p1 p2 p3 p4 p5 p6 p7 p8 : Int) : Nat → Int
  | 0 => p0
  | 1 => p1
  | 2 => p2
  | 3 => p3
  | 4 => p4
  | 5 => p5
  | 6 => p6
  | 7 => p7
  | _ => p8
theorem pair_plain {t : Int} (h0 : 0 ≤ t) {x y : Tb} (gx : Gd t x) (gy : Gd t y) : ∃ (bk : Bool) (p : Nat → Int), (∀ A ∈ (match bk with | true => factsT (twoOf x y) p | false => factsF (twoOf x y) p).drop 6, A) ∧
    x.r - leftX bk (twoOf x y) p 0 + leftY bk (twoOf x y) p 0 = (fst x y).r ∧ x.g - leftX bk (twoOf x y) p 1 + leftY bk (twoOf x y) p 1 = (fst x y).g ∧ x.b - leftX bk (twoOf x y) p 2 + leftY bk (twoOf x y) p 2 = (fst x y).b ∧ overP bk p = top2 x y - max x.sum y.sum := by
  have sx : (twoOf x y).X = x.sum := by show 0 + x.r + x.g + x.b = _; unfold Tb.sum; lia
  have sy : (twoOf x y).Y = y.sum := by show 0 + y.r + y.g + y.b = _; unfold Tb.sum; lia
  have px : 0 ≤ x.r ∧ 0 ≤ x.g ∧ 0 ≤ x.b := by obtain ⟨x1, x2, x3, x4⟩ := gx; lia
  have py : 0 ≤ y.r ∧ 0 ≤ y.g ∧ 0 ≤ y.b := by obtain ⟨x1, x2, x3, x4⟩ := gy; lia
  by_cases hb : y.sum ≤ x.sum
  · obtain ⟨p1, e1⟩ : ∃ p, p = min x.b y.r := ⟨_, rfl⟩
    obtain ⟨p2, e2⟩ : ∃ p, p = min x.g (y.r - p1) := ⟨_, rfl⟩
    obtain ⟨p3, e3⟩ : ∃ p, p = min x.r (y.r - p1 - p2) := ⟨_, rfl⟩
    obtain ⟨p4, e4⟩ : ∃ p, p = min (x.r - p3) y.g := ⟨_, rfl⟩
    obtain ⟨p5, e5⟩ : ∃ p, p = min (x.b - p1) (y.g - p4) := ⟨_, rfl⟩
    obtain ⟨p6, e6⟩ : ∃ p, p = min (x.g - p2) (y.g - p4 - p5) := ⟨_, rfl⟩
    obtain ⟨p7, e7⟩ : ∃ p, p = min (x.g - p2 - p6) y.b := ⟨_, rfl⟩
    obtain ⟨p8, e8⟩ : ∃ p, p = min (x.r - p3 - p4) (y.b - p7) := ⟨_, rfl⟩
    obtain ⟨p9, e9⟩ : ∃ p, p = min (x.b - p1 - p5) (y.b - p7 - p8) := ⟨_, rfl⟩
    obtain ⟨a, b, c, d⟩ := paired_back px py hb e1 e2 e3 e4 e5 e6 e7 e8 e9
    refine ⟨true, prs p1 p2 p3 p4 p5 p6 p7 p8 p9, ?_, a, b, c, ?_⟩
    · refine all_cons (by rw [sx, sy]; exact decide_eq_true hb) (all_cons (mnF_of e1) (all_cons (mnF_of e2) (all_cons (mnF_of e3) (all_cons (mnF_of e4) (all_cons (mnF_of e5) (all_cons (mnF_of e6) (all_cons (mnF_of e7) (all_cons (mnF_of e8) (all_cons (mnF_of e9) (by simp))))))))))
    · show 0 + p1 + p2 + p3 + p5 + p6 + p9 = _
      lia
  · obtain ⟨p1, e1⟩ : ∃ p, p = min y.g x.r := ⟨_, rfl⟩
    obtain ⟨p2, e2⟩ : ∃ p, p = min y.b (x.r - p1) := ⟨_, rfl⟩
    obtain ⟨p3, e3⟩ : ∃ p, p = min y.r (x.r - p1 - p2) := ⟨_, rfl⟩
    obtain ⟨p4, e4⟩ : ∃ p, p = min (y.b - p2) x.g := ⟨_, rfl⟩
    obtain ⟨p5, e5⟩ : ∃ p, p = min (y.r - p3) (x.g - p4) := ⟨_, rfl⟩
    obtain ⟨p6, e6⟩ : ∃ p, p = min (y.g - p1) (x.g - p4 - p5) := ⟨_, rfl⟩
    obtain ⟨p7, e7⟩ : ∃ p, p = min (y.r - p3 - p5) x.b := ⟨_, rfl⟩
    obtain ⟨p8, e8⟩ : ∃ p, p = min (y.g - p1 - p6) (x.b - p7) := ⟨_, rfl⟩
    obtain ⟨p9, e9⟩ : ∃ p, p = min (y.b - p2 - p4) (x.b - p7 - p8) := ⟨_, rfl⟩
    obtain ⟨a, b, c, d⟩ := paired_forth px py (by lia) e1 e2 e3 e4 e5 e6 e7 e8 e9
    refine ⟨false, prs p1 p2 p3 p4 p5 p6 p7 p8 p9, ?_, a, b, c, ?_⟩
    · have mc : ∀ {p a b : Int}, p = min b a → mnF p a b := fun h => mnF_of (h.trans (by lia))
      refine all_cons (by rw [sx, sy]; exact decide_eq_false hb) (all_cons (mc e1) (all_cons (mc e2) (all_cons (mc e3) (all_cons (mc e4) (all_cons (mc e5) (all_cons (mc e6) (all_cons (mc e7) (all_cons (mc e8) (all_cons (mc e9) (by simp))))))))))
    · show 0 + p3 + p5 + p6 + p7 + p8 + p9 = _
      lia
theorem pair_of (HP : ∀ bk, PaR kt bk) {t : Int} (h0 : 0 ≤ t) (h2 : t ≤ 2) {x y : Tb} (gx : Gd t x) (gy : Gd t y)
    (adO : Nat → Addr) (had : ∀ j, j ≤ 97 → adO j = adO 0 + j) (t₀ i : Nat) {a a' : Addr} (ha : 2 ≤ a) (ha' : 2 ≤ a') (q q' : Nat → Int) (v v' : Nat → Nat) :
    ∃ r : G1, Told r x y ∧ GivenOk prog w (kt w.params).get 600 adO ⟨prog, w.params⟩ t₀ [(a, dctF x q v), (a', dctF y q' v')] (.call (.ref 93) ⟨[.ref a, .ref a'], []⟩) i (.ref (adO 96)) r.ι 97
      [(96, threeV adO 86 92 (r.y 6) (r.v 12)), (86, r.tab 0), (92, r.tab 1)] := by
  obtain ⟨a, rfl⟩ : ∃ b, a = b + 2 := ⟨a - 2, (Nat.sub_add_cancel ha).symm⟩
  obtain ⟨a', rfl⟩ : ∃ b, a' = b + 2 := ⟨a' - 2, (Nat.sub_add_cancel ha').symm⟩
  obtain ⟨s, hs⟩ := par_of w.params
  have hc : ∀ j, (fun n => adO 0 + n) (j + 1) = (fun n => adO 0 + n) j + 1 := fun j => rfl
  obtain ⟨bk, p, hf, hr, hg, hb, hn⟩ := pair_plain h0 gx gy
  have e := HP bk s w.params prog (GivenOk prog w (kt w.params).get 700) (fun n => adO 0 + n) a a' (twoOf x y) (bareOf q q' v v') (t₀ + i) p
  have hall : ∀ A ∈ (match bk with | true => factsT (twoOf x y) p | false => factsF (twoOf x y) p), A := by
    cases bk with
    | true => exact all_app (all_app (fit_of h0 h2 gx) (fit_of h0 h2 gy)) hf
    | false => exact all_app (all_app (fit_of h0 h2 gx) (fit_of h0 h2 gy)) hf
  obtain ⟨κ, T, hT, K⟩ := contract noJs (by decide : 600 ≤ 600) hs (end2_of e) (andL_of trivial hall) (accs_ok _ _ _) hc
  simp only [getAll, List.cons.injEq, and_true] at hT
  obtain ⟨o0, o1, o2⟩ := hT
  have e1 : dct0 ((twoOf x y).x₀ - leftX bk (twoOf x y) p 0 + leftY bk (twoOf x y) p 0) ((twoOf x y).x₁ - leftX bk (twoOf x y) p 1 + leftY bk (twoOf x y) p 1) ((twoOf x y).x₂ - leftX bk (twoOf x y) p 2 + leftY bk (twoOf x y) p 2) = dct0 (fst x y).r (fst x y).g (fst x y).b := by
    rw [← hr, ← hg, ← hb]; rfl
  have e2 : dct0 ((twoOf x y).y₀ - leftY bk (twoOf x y) p 0 + leftX bk (twoOf x y) p 0) ((twoOf x y).y₁ - leftY bk (twoOf x y) p 1 + leftX bk (twoOf x y) p 1) ((twoOf x y).y₂ - leftY bk (twoOf x y) p 2 + leftX bk (twoOf x y) p 2) = dct0 (snd x y).r (snd x y).g (snd x y).b := by
    have a0 : (twoOf x y).y₀ - leftY bk (twoOf x y) p 0 + leftX bk (twoOf x y) p 0 = (snd x y).r := by show y.r - _ + _ = x.r + y.r - (fst x y).r; lia
    have a1 : (twoOf x y).y₁ - leftY bk (twoOf x y) p 1 + leftX bk (twoOf x y) p 1 = (snd x y).g := by show y.g - _ + _ = x.g + y.g - (fst x y).g; lia
    have a2 : (twoOf x y).y₂ - leftY bk (twoOf x y) p 2 + leftX bk (twoOf x y) p 2 = (snd x y).b := by show y.b - _ + _ = x.b + y.b - (fst x y).b; lia
    rw [a0, a1, a2]
  rw [e1] at o1
  rw [e2] at o2
  rw [hn] at o0
  obtain ⟨tk, o0⟩ := un_three o0
  obtain ⟨qa, va, o1⟩ := un_dct o1
  obtain ⟨qb, vb, o2⟩ := un_dct o2
  have h71 := had 86 (by lia)
  have h76 := had 92 (by lia)
  have h85 := had 96 (by lia)
  refine ⟨gOf (fst x y) (snd x y) (top2 x y - max x.sum y.sum) qa qb va vb tk (i + κ), told_of .., ?_⟩
  have z := K adO [(a + 2, dctF x q v), (a' + 2, dctF y q' v')] 97
    [(96, threeV adO 86 92 (top2 x y - max x.sum y.sum) tk), (86, dctF (fst x y) qa va), (92, dctF (snd x y) qb vb)]
    arg2_mem rfl (had _ (Nat.le_refl _)) (by
      intro p hp
      simp only [List.mem_cons, List.not_mem_nil, or_false] at hp
      rcases hp with rfl | rfl | rfl
      · refine ⟨96, ?_, h85⟩
        rw [o0]
        show some (threeV (fun n => adO 0 + n) 86 92 _ tk) = some (threeV adO 86 92 _ tk)
        unfold threeV
        rw [h71, h76]
      · exact ⟨86, o1, h71⟩
      · exact ⟨92, o2, h76⟩)
  rw [h85]
  exact z
end
end Mine
namespace Mine
open PySem PySem.W PySem.W.X PySem.Calls PySem.Spec
/-- a line: dots and a letter -/
noncomputable def dln (n c : Nat) : List Nat := List.replicate n 46 ++ [c]
noncomputable def mailL : List (Nat × Nat) → List Nat → List Nat
  | [], _ => []
  | p :: l, e => dln p.1 p.2 ++ (e ++ mailL l e)
noncomputable def bump : List (Nat × Nat) → List (Nat × Nat)
  | [] => []
  | p :: l => (p.1 + 1, p.2) :: bump l
noncomputable def okL (l : List (Nat × Nat)) : Prop := ∀ p ∈ l, 1 ≤ p.1 ∧ p.1 ≤ 40 ∧ p.2 ≠ 10 ∧ p.2 ≠ 13 ∧ p.2 ≠ 46
noncomputable def isEnd (e : List Nat) : Prop := e = [10] ∨ e = [13] ∨ e = [13, 10]
theorem dln_ok {n c x : Nat} (h1 : c ≠ 10) (h2 : c ≠ 13) (hx : x ∈ dln n c) : ¬ (x = 10 ∨ x = 13) := by
  rcases List.mem_append.mp hx with h | h
  · have := List.eq_of_mem_replicate h
    lia
  · simp only [List.mem_singleton] at h; lia
theorem ends_word : ∀ (w r cur : List Nat), (∀ c ∈ w, ¬ (c = 10 ∨ c = 13)) → endsP (w ++ r) cur = endsP r (cur ++ w)
  | [], r, cur, _ => by simp
  | c :: w, r, cur, h => by
    rw [List.cons_append, endsP_no (h c (.head _)), ends_word w r _ fun x hx => h x (.tail _ hx)]
    simp
theorem flat_app : ∀ a b : List Pc, flatP (a ++ b) = flatP a ++ flatP b
  | [], _ => rfl
  | c :: a, b => by show c.2 ++ flatP (a ++ b) = c.2 ++ flatP a ++ flatP b; rw [flat_app a b, List.append_assoc]
theorem flat_flush : ∀ c : List Nat, flatP (flushP c) = c
  | [] => rfl
  | c :: l => by show c :: l ++ [] = _; simp
theorem mail_no10 (l : List (Nat × Nat)) (h : okL l) (e : List Nat) : ∀ r, mailL l e ≠ 10 :: r := by
  intro r q
  cases l with
  | nil => cases q
  | cons p l =>
    obtain ⟨n, c⟩ := p
    have h1 := (h (n, c) (.head _)).1
    obtain ⟨m, rfl⟩ : ∃ m, n = m + 1 := ⟨n - 1, by simp only at h1; lia⟩
    have : mailL ((m + 1, c) :: l) e = 46 :: (List.replicate m 46 ++ [c] ++ (e ++ mailL l e)) := rfl
    rw [this] at q
    injection q with q1 q2
    lia
theorem ends_one {e : List Nat} (he : isEnd e) (cur r : List Nat) (hr : ∀ x, r ≠ 10 :: x) : endsP (e ++ r) cur = flushP cur ++ (false, [13, 10]) :: endsP r [] := by
  rcases he with rfl | rfl | rfl
  · show endsP (10 :: r) cur = _
    rw [endsP]
  · exact endsP_13 hr
  · show endsP (13 :: 10 :: r) cur = _
    rw [endsP]
theorem ends_flat {e : List Nat} (he : isEnd e) : ∀ l, okL l → flatP (endsP (mailL l e) []) = mailL l [13, 10] ∧ l.length ≤ (endsP (mailL l e) []).length
  | [], _ => ⟨rfl, Nat.zero_le _⟩
  | p :: l, h => by
    have hp := h p (.head _)
    have hl : okL l := fun x hx => h x (.tail _ hx)
    have ih := ends_flat he l hl
    have e1 : endsP (mailL (p :: l) e) [] = flushP (dln p.1 p.2) ++ (false, [13, 10]) :: endsP (mailL l e) [] := by
      show endsP (dln p.1 p.2 ++ (e ++ mailL l e)) [] = _
      rw [ends_word _ _ _ fun c hc => dln_ok hp.2.2.1 hp.2.2.2.1 hc, List.nil_append, ends_one he _ _ (mail_no10 l hl e)]
    rw [e1]
    refine ⟨?_, ?_⟩
    · rw [flat_app, flat_flush]
      show dln p.1 p.2 ++ ([13, 10] ++ flatP (endsP (mailL l e) [])) = dln p.1 p.2 ++ ([13, 10] ++ mailL l [13, 10])
      rw [ih.1]
    · rw [List.length_append, List.length_cons, List.length_cons]
      have := ih.2
      lia
theorem dots_word : ∀ (n : Nat) (r cur : List Nat), dotsP (List.replicate n 46 ++ r) false cur = dotsP r false (cur ++ List.replicate n 46)
  | 0, r, cur => by simp
  | n + 1, r, cur => by
    rw [List.replicate_succ, List.cons_append, dotsP_no (by simp)]
    show dotsP _ false _ = _
    rw [dots_word n]
    simp
theorem dots_flat : ∀ (l : List (Nat × Nat)) (cur : List Nat), okL l → flatP (dotsP (mailL l [13, 10]) true cur) = cur ++ mailL (bump l) [13, 10] ∧ l.length ≤ (dotsP (mailL l [13, 10]) true cur).length
  | [], cur, _ => ⟨by show flatP (flushP cur) = _; rw [flat_flush]; simp [bump, mailL], Nat.zero_le _⟩
  | (n, c) :: l, cur, h => by
    have hp := h (n, c) (.head _)
    have hl : okL l := fun x hx => h x (.tail _ hx)
    obtain ⟨m, rfl⟩ : ∃ m, n = m + 1 := ⟨n - 1, by have := hp.1; simp only at this; lia⟩
    have ih := dots_flat l (List.replicate m 46 ++ [c, 13, 10]) hl
    have e1 : dotsP (mailL ((m + 1, c) :: l) [13, 10]) true cur = flushP cur ++ (false, [46, 46]) :: dotsP (mailL l [13, 10]) true (List.replicate m 46 ++ [c, 13, 10]) := by
      have : mailL ((m + 1, c) :: l) [13, 10] = 46 :: (List.replicate m 46 ++ (c :: 13 :: 10 :: mailL l [13, 10])) := by
        show List.replicate (m + 1) 46 ++ [c] ++ ([13, 10] ++ mailL l [13, 10]) = _
        rw [List.replicate_succ]; simp
      rw [this]
      show flushP cur ++ (false, [46, 46]) :: dotsP (List.replicate m 46 ++ (c :: 13 :: 10 :: mailL l [13, 10])) false [] = _
      have hc : (c == 10) = false := by simpa using hp.2.2.1
      rw [dots_word, dotsP_no (by simp), hc, dotsP_no (by simp)]
      show _ ++ (false, [46, 46]) :: dotsP (10 :: mailL l [13, 10]) false _ = _
      rw [dotsP_no (by simp)]
      show _ ++ (false, [46, 46]) :: dotsP (mailL l [13, 10]) true _ = _
      simp
    rw [e1]
    refine ⟨?_, ?_⟩
    · rw [flat_app, flat_flush]
      show cur ++ ([46, 46] ++ flatP (dotsP (mailL l [13, 10]) true (List.replicate m 46 ++ [c, 13, 10]))) = cur ++ (List.replicate (m + 2) 46 ++ [c] ++ ([13, 10] ++ mailL (bump l) [13, 10]))
      rw [ih.1, List.replicate_succ, List.replicate_succ]
      simp
    · rw [List.length_append, List.length_cons, List.length_cons]
      have := ih.2
      lia
theorem bump_ok : ∀ {l : List (Nat × Nat)} {N : Nat}, (∀ p ∈ l, 1 ≤ p.1 ∧ p.1 ≤ N ∧ p.2 ≠ 10 ∧ p.2 ≠ 13 ∧ p.2 ≠ 46) → ∀ p ∈ bump l, 1 ≤ p.1 ∧ p.1 ≤ N + 1 ∧ p.2 ≠ 10 ∧ p.2 ≠ 13 ∧ p.2 ≠ 46
  | [], _, _, p, hp => by cases hp
  | q :: l, N, h, p, hp => by
    rcases List.mem_cons.mp hp with rfl | hp
    · have := h q (.head _)
      exact ⟨by simp, by simp only; lia, this.2.2⟩
    · exact bump_ok (fun x hx => h x (.tail _ hx)) p hp
theorem bump_len : ∀ l : List (Nat × Nat), (bump l).length = l.length
  | [] => rfl
  | _ :: l => by show (bump l).length + 1 = l.length + 1; rw [bump_len l]
theorem mail_len {e : List Nat} (he : e.length ≤ 2) : ∀ l, okL l → (mailL l e).length ≤ 43 * l.length
  | [], _ => Nat.le_refl _
  | p :: l, h => by
    have hp := h p (.head _)
    have := mail_len he l fun x hx => h x (.tail _ hx)
    show (List.replicate p.1 46 ++ [p.2] ++ (e ++ mailL l e)).length ≤ _
    simp only [List.length_append, List.length_replicate, List.length_cons, List.length_nil]
    lia
noncomputable def linesL : List (Nat × Nat) → List Str
  | [] => [⟨⟨[]⟩⟩]
  | p :: l => ⟨⟨dln p.1 p.2⟩⟩ :: linesL l
theorem lines_cons : ∀ l, ∃ a r, linesL l = a :: r
  | [] => ⟨_, _, rfl⟩
  | _ :: _ => ⟨_, _, rfl⟩
theorem glue_lines : ∀ l, glue (linesL l) = mailL l [13, 10]
  | [] => rfl
  | p :: l => by
    obtain ⟨a, r, hr⟩ := lines_cons l
    have ih := glue_lines l
    show glue (⟨⟨dln p.1 p.2⟩⟩ :: linesL l) = dln p.1 p.2 ++ ([13, 10] ++ mailL l [13, 10])
    rw [← ih, hr]
    rfl
theorem lines_len : ∀ l, (linesL l).length = l.length + 1
  | [] => rfl
  | _ :: l => by show (linesL l).length + 1 = _; rw [lines_len l]; rfl
theorem lines_no13 : ∀ l, okL l → ∀ x ∈ linesL l, 13 ∉ x.cps.toList
  | [], _, x, hx => by
    simp only [linesL, List.mem_singleton] at hx
    subst hx; simp
  | p :: l, h, x, hx => by
    rcases List.mem_cons.mp hx with rfl | hx
    · intro q
      have hp := h p (.head _)
      exact dln_ok hp.2.2.1 hp.2.2.2.1 q (.inr rfl)
    · exact lines_no13 l (fun y hy => h y (.tail _ hy)) x hx
end Mine
namespace Mine
open PySem PySem.W PySem.W.X PySem.Calls PySem.Spec
theorem quote_one {ls : List (Nat × Nat)} {e : List Nat} {s : Str} (hl : okL ls) (hb : okL (bump ls)) (h2 : 2 ≤ ls.length) (h9 : ls.length ≤ 9) (he : isEnd e) (hs : s.cps.toList = mailL ls e) :
    subSays ⟨⟨[13, 10]⟩⟩ s [13, 10] (endsP s.cps.toList []) ∧ subSays ⟨⟨[46, 46]⟩⟩ (endsS s) [46, 46] (dotsP (endsS s).cps.toList true []) ∧ (dotsS (endsS s)).cps.toList = mailL (bump ls) [13, 10] := by
  have hel : e.length ≤ 2 := by rcases he with rfl | rfl | rfl <;> decide
  obtain ⟨f1, n1⟩ := ends_flat he ls hl
  obtain ⟨f2, n2⟩ := dots_flat ls [] hl
  have z1 := mail_len hel ls hl
  have z2 := mail_len (e := [13, 10]) (by decide) ls hl
  have z3 := mail_len (e := [13, 10]) (by decide) (bump ls) hb
  rw [bump_len] at z3
  rw [List.nil_append] at f2
  have e1 : (endsS s).cps.toList = mailL ls [13, 10] := by
    show flatP (endsP s.cps.toList []) = _
    rw [hs, f1]
  refine ⟨⟨rfl, ?_, ?_, ?_⟩, ⟨rfl, ?_, ?_, ?_⟩, ?_⟩
  · rw [← Array.length_toList, hs]; lia
  · rw [hs]; lia
  · rw [hs, f1]; lia
  · rw [← Array.length_toList, e1]; lia
  · rw [e1]; lia
  · rw [e1, f2]; lia
  · show flatP (dotsP (endsS s).cps.toList true []) = _
    rw [e1, f2]
theorem rep_list : ∀ (n : Nat) (acc : Array Nat), ((List.replicate n (#[46] : Array Nat)).foldl (· ++ ·) acc).toList = acc.toList ++ List.replicate n 46
  | 0, acc => by simp
  | n + 1, acc => by
    rw [List.replicate_succ, List.foldl_cons, rep_list n]
    simp [List.replicate_succ]
theorem mulS_list {x : Int} : (mulS x).cps.toList = List.replicate x.toNat 46 := by
  unfold mulS
  by_cases h : x = 1
  · subst h; rfl
  · rw [decide_eq_false h]
    show ((List.replicate x.toNat (#[46] : Array Nat)).foldl (· ++ ·) #[]).toList = _
    rw [rep_list]; rfl
theorem piece_list {x : Int} {c : Nat} {e : Str} : (pieceS x c e).cps.toList = dln x.toNat c ++ e.cps.toList := by
  unfold pieceS
  rw [Str.cps_append, Str.cps_append, Array.toList_append, Array.toList_append, mulS_list]
  rfl
theorem factS_ok {x : Int} {c : Nat} {e : Str} (h1 : 1 ≤ x) (h2 : x ≤ 30) (he : isEnd e.cps.toList) : ∀ A ∈ factS x c e, A := by
  have hm : (mulS x).cps.size = x.toNat := by rw [← Array.length_toList, mulS_list, List.length_replicate]
  have hc : (sgn c).cps.size = 1 := rfl
  have hel : 1 ≤ e.cps.size ∧ e.cps.size ≤ 2 := by
    rw [← Array.length_toList]
    rcases he with h | h | h <;> rw [h] <;> decide
  have ha : (mulS x ++ sgn c).cps.size = x.toNat + 1 := by rw [Str.cps_append, Array.size_append, hm, hc]
  refine all_cons ⟨rfl, h1, by lia⟩ (all_cons ⟨?_, ?_, ?_⟩ (all_cons ⟨?_, ?_, ?_⟩ (by simp)))
  · rw [hm]; lia
  · rw [hc]; decide
  · rw [hm, hc]; lia
  · rw [ha]; lia
  · lia
  · rw [ha]; lia
/-- a row's nine parts -/
noncomputable def x9 (a b c : Tb) : Nat → Int
  | 0 => a.r
  | 1 => a.g
  | 2 => a.b
  | 3 => b.r
  | 4 => b.g
  | 5 => b.b
  | 6 => c.r
  | 7 => c.g
  | _ => c.b
noncomputable def q9 (a b c : Nat → Int) : Nat → Int
  | 0 => a 0
  | 1 => a 1
  | 2 => a 2
  | 3 => b 0
  | 4 => b 1
  | 5 => b 2
  | 6 => c 0
  | 7 => c 1
  | _ => c 2
noncomputable def u18 (a b c : Nat → Nat) : Nat → Nat
  | 0 => a 0
  | 1 => a 1
  | 2 => a 2
  | 3 => a 3
  | 4 => a 4
  | 5 => a 5
  | 6 => b 0
  | 7 => b 1
  | 8 => b 2
  | 9 => b 3
  | 10 => b 4
  | 11 => b 5
  | 12 => c 0
  | 13 => c 1
  | 14 => c 2
  | 15 => c 3
  | 16 => c 4
  | _ => c 5
noncomputable def a4 (a b c d : Addr) : Nat → Addr
  | 0 => a
  | 1 => b
  | 2 => c
  | _ => d
/-- a part that can be sent -/
structure Few (x : Tb) : Prop where
  r1 : 1 ≤ x.r
  r2 : x.r ≤ 30
  g1 : 1 ≤ x.g
  g2 : x.g ≤ 30
  b1 : 1 ≤ x.b
  b2 : x.b ≤ 30
noncomputable def lsT (a b c : Tb) (m : Nat) : List (Nat × Nat) := [(a.r.toNat + m, 114), (a.g.toNat + m, 103), (a.b.toNat + m, 98), (b.r.toNat + m, 114), (b.g.toNat + m, 103), (b.b.toNat + m, 98), (c.r.toNat + m, 114), (c.g.toNat + m, 103), (c.b.toNat + m, 98)]
theorem lsT_ok {a b c : Tb} (ha : Few a) (hb : Few b) (hc : Few c) {m : Nat} (hm : m ≤ 9) : okL (lsT a b c m) := by
  obtain ⟨_, _, _, _, _, _⟩ := ha
  obtain ⟨_, _, _, _, _, _⟩ := hb
  obtain ⟨_, _, _, _, _, _⟩ := hc
  unfold okL lsT
  simp only [List.forall_mem_cons]
  simp
  omega
noncomputable def lineS (a b c : Tb) (m : Nat) (i : Nat) : Str := ⟨⟨dln ((x9 a b c i).toNat + m) (match i % 3 with | 0 => 114 | 1 => 103 | _ => 98)⟩⟩
theorem mail0_list (a b c : Tb) (e : Str) : (mail0 (x9 a b c) e).cps.toList = mailL (lsT a b c 0) e.cps.toList := by
  show catS (pieces9 (x9 a b c) e) = _
  unfold pieces9 lsT
  simp only [catS, mailL, piece_list, List.append_assoc, Nat.add_zero]
  rfl
theorem lineF_ok {n c : Nat} (h : 1 ≤ n) (h2 : n ≤ 40) : ∀ A ∈ lineF ⟨⟨dln n c⟩⟩ c, A := by
  refine all_cons ⟨List.replicate n 46, c, rfl, ?_, rfl⟩ (all_cons ?_ (by simp))
  · intro q
    have := congrArg List.length q
    rw [List.length_replicate] at this
    simp only [List.length_nil] at this
    lia
  · show (dln n c).length < 100000
    unfold dln
    rw [List.length_append, List.length_replicate]
    simp; lia
theorem quotes_ok {a b c : Tb} (ha : Few a) (hb : Few b) (hc : Few c) {e : Str} (he : isEnd e.cps.toList) {tm : Nat} (ht : tm = 1 ∨ tm = 2) :
    (∀ A ∈ quoteFacts tm (mail0 (x9 a b c) e), A) ∧ (quoted tm (mail0 (x9 a b c) e)).cps.toList = mailL (lsT a b c tm) [13, 10] := by
  obtain ⟨p1, p2, p3⟩ := quote_one (lsT_ok ha hb hc (by decide : 0 ≤ 9)) (lsT_ok ha hb hc (by decide : 1 ≤ 9)) (by decide : 2 ≤ 9) (Nat.le_refl 9) he (mail0_list a b c e)
  rcases ht with rfl | rfl
  · exact ⟨all_cons p1 (all_cons p2 (by simp [quoteFacts])), p3⟩
  · obtain ⟨r1, r2, r3⟩ := quote_one (lsT_ok ha hb hc (by decide : 1 ≤ 9)) (lsT_ok ha hb hc (by decide : 2 ≤ 9)) (by decide : 2 ≤ 9) (Nat.le_refl 9) (.inr (.inr rfl)) p3
    exact ⟨all_cons p1 (all_cons p2 (all_cons r1 (all_cons r2 (by simp [quoteFacts])))), r3⟩
theorem mulF_ok {n : Int} (h : 0 ≤ n) (h2 : n ≤ 5) : mulF n := ⟨⟨by decide, by decide⟩, h, by lia⟩
theorem factsS_ok {a b c : Tb} (ha : Few a) (hb : Few b) (hc : Few c) {e : Str} (he : isEnd e.cps.toList) {tm : Nat} (ht : tm = 1 ∨ tm = 2) : ∀ A ∈ factsS tm (x9 a b c) e (lineS a b c tm), A := by
  obtain ⟨q1, q2⟩ := quotes_ok ha hb hc he ht
  have hm : tm ≤ 9 := by lia
  have hg := glue_lines (lsT a b c tm)
  have hel : e.cps.toList.length ≤ 2 := by rcases he with h | h | h <;> rw [h] <;> decide
  have l0 := mail_len hel (lsT a b c 0) (lsT_ok ha hb hc (by decide : 0 ≤ 9))
  have l1 := mail_len (e := [13, 10]) (by decide) (lsT a b c tm) (lsT_ok ha hb hc hm)
  have n9 : ∀ m, (lsT a b c m).length = 9 := fun _ => rfl
  rw [n9] at l0 l1
  have hj : joinSays ⟨⟨[]⟩⟩ (pieces9 (x9 a b c) e) := ⟨rfl, (by decide : 2 ≤ 9), by
    have : catS (pieces9 (x9 a b c) e) = _ := mail0_list a b c e
    rw [this]; lia⟩
  have hsp : splitSays (quoted tm (mail0 (x9 a b c) e)) ⟨⟨[13, 10]⟩⟩ (linesL (lsT a b c tm)) := ⟨rfl, by rw [q2, hg], by rw [lines_len, n9]; decide, by rw [← Array.length_toList, q2]; lia, lines_no13 _ (lsT_ok ha hb hc hm)⟩
  obtain ⟨ar1, ar2, ag1, ag2, ab1, ab2⟩ := ha
  obtain ⟨br1, br2, bg1, bg2, bb1, bb2⟩ := hb
  obtain ⟨cr1, cr2, cg1, cg2, cb1, cb2⟩ := hc
  have m0 : mulF 0 := mulF_ok (by decide) (by decide)
  have m1 : mulF 1 := mulF_ok (by decide) (by decide)
  have m2 : mulF 2 := mulF_ok (by decide) (by decide)
  have L0 : ∀ A ∈ lineF (lineS a b c tm 0) 114, A := lineF_ok (n := a.r.toNat + tm) (by lia) (by lia)
  have L1 : ∀ A ∈ lineF (lineS a b c tm 1) 103, A := lineF_ok (n := a.g.toNat + tm) (by lia) (by lia)
  have L2 : ∀ A ∈ lineF (lineS a b c tm 2) 98, A := lineF_ok (n := a.b.toNat + tm) (by lia) (by lia)
  have L3 : ∀ A ∈ lineF (lineS a b c tm 3) 114, A := lineF_ok (n := b.r.toNat + tm) (by lia) (by lia)
  have L4 : ∀ A ∈ lineF (lineS a b c tm 4) 103, A := lineF_ok (n := b.g.toNat + tm) (by lia) (by lia)
  have L5 : ∀ A ∈ lineF (lineS a b c tm 5) 98, A := lineF_ok (n := b.b.toNat + tm) (by lia) (by lia)
  have L6 : ∀ A ∈ lineF (lineS a b c tm 6) 114, A := lineF_ok (n := c.r.toNat + tm) (by lia) (by lia)
  have L7 : ∀ A ∈ lineF (lineS a b c tm 7) 103, A := lineF_ok (n := c.g.toNat + tm) (by lia) (by lia)
  have L8 : ∀ A ∈ lineF (lineS a b c tm 8) 98, A := lineF_ok (n := c.b.toNat + tm) (by lia) (by lia)
  exact all_app (all_app (all_app (all_app (all_app (all_app (all_app (all_app (all_app (factS_ok ar1 ar2 he) (factS_ok ag1 ag2 he)) (factS_ok ab1 ab2 he)) (factS_ok br1 br2 he)) (factS_ok bg1 bg2 he)) (factS_ok bb1 bb2 he)) (factS_ok cr1 cr2 he)) (factS_ok cg1 cg2 he)) (factS_ok cb1 cb2 he))
    (all_cons hj (all_app q1 (all_cons hsp (all_cons m0 (all_cons m0 (all_app (all_app (all_app L0 L1) L2) (all_cons m1 (all_cons m1 (all_app (all_app (all_app L3 L4) L5) (all_cons m2 (all_cons m2 (all_app (all_app L6 L7) L8))))))))))))
end Mine
namespace Mine
open PySem PySem.W PySem.W.X PySem.Calls PySem.Spec
section
variable {kt : Params → KT} {prog : Program} {w : World}
/-- what a sending tells -/
structure ToldS (r : G1) (a b c : Tb) (tm : Int) : Prop where
  e0 : r.y 0 = a.r + tm
  e1 : r.y 1 = a.g + tm
  e2 : r.y 2 = a.b + tm
  e3 : r.y 3 = b.r + tm
  e4 : r.y 4 = b.g + tm
  e5 : r.y 5 = b.b + tm
  e6 : r.y 6 = c.r + tm
  e7 : r.y 7 = c.g + tm
  e8 : r.y 8 = c.b + tm
noncomputable def sOf (a b c : Tb) (q q' q'' : Nat → Int) (v v' v'' : Nat → Nat) (ι : Nat) : G1 := ⟨x9 a b c, q9 q q' q'', u18 v v' v'', ι⟩
theorem argS_mem {n : Nat} {a : Nat → Addr} {x : Nat → Int} {q : Nat → Int} {u : Nat → Nat} : ∀ k a' o', argS n a x q u k = some (a', o') → (a', o') ∈ [(a 0 + 2, refs3 n (a 1 + 2) (a 2 + 2) (a 3 + 2)), (a 1 + 2, tab9 x q u 0), (a 2 + 2, tab9 x q u 1), (a 3 + 2, tab9 x q u 2)] := by
  intro k a' o' h
  match k with
  | 0 => cases h; exact .head _
  | 1 => cases h; exact .tail _ (.head _)
  | 2 => cases h; exact .tail _ (.tail _ (.head _))
  | 3 => cases h; exact .tail _ (.tail _ (.tail _ (.head _)))
  | _ + 4 => cases h
theorem lenI_line {a b c : Tb} {m i : Nat} (h : 0 ≤ x9 a b c i) : lenI (lineS a b c m i) = x9 a b c i + (m : Int) := by
  have : (lineS a b c m i).cps.size = (x9 a b c i).toNat + m + 1 := by
    show (dln _ _).length = _
    unfold dln
    rw [List.length_append, List.length_replicate]
    rfl
  show ((lineS a b c m i).cps.size : Int) - 1 = _
  rw [this]
  lia
theorem sent_of {tm tg k : Nat} (HS : SnR kt tm tg k) (ht : tm = 1 ∨ tm = 2) {a b c : Tb} (ga : Few a) (gb : Few b) (gc : Few c) {e : Str} (he : isEnd e.cps.toList)
    (adO : Nat → Addr) (had : ∀ j, 1 ≤ j → j ≤ 61 → adO j = adO 0 + (j + k)) (t₀ i n tt te : Nat) {l0 l1 l2 l3 : Addr} (h0 : 2 ≤ l0) (h1 : 2 ≤ l1) (h2 : 2 ≤ l2) (h3 : 2 ≤ l3) (q q' q'' : Nat → Int) (v v' v'' : Nat → Nat) :
    ∃ r : G1, ToldS r a b c tm ∧ GivenOk prog w (kt w.params).get 600 adO ⟨prog, w.params⟩ t₀ [(l0, refs3 n l1 l2 l3), (l1, dctF a q v), (l2, dctF b q' v'), (l3, dctF c q'' v'')] (.call (.ref 98) ⟨[.ref l0, .int (Int.ofNat tm) tt, .str e te], []⟩) i (.ref (adO 27)) r.ι 61
      [(27, refs3 3 (adO 32) (adO 42) (adO 52)), (32, r.tab 0), (42, r.tab 1), (52, r.tab 2)] := by
  obtain ⟨l0, rfl⟩ : ∃ b, l0 = b + 2 := ⟨l0 - 2, (Nat.sub_add_cancel h0).symm⟩
  obtain ⟨l1, rfl⟩ : ∃ b, l1 = b + 2 := ⟨l1 - 2, (Nat.sub_add_cancel h1).symm⟩
  obtain ⟨l2, rfl⟩ : ∃ b, l2 = b + 2 := ⟨l2 - 2, (Nat.sub_add_cancel h2).symm⟩
  obtain ⟨l3, rfl⟩ : ∃ b, l3 = b + 2 := ⟨l3 - 2, (Nat.sub_add_cancel h3).symm⟩
  obtain ⟨s, hs⟩ := par_of w.params
  have hc : ∀ j, (fun n => adO 0 + n) (j + 1) = (fun n => adO 0 + n) j + 1 := fun j => rfl
  have E := HS s w.params prog (GivenOk prog w (kt w.params).get 700) (fun n => adO 0 + n) n (a4 l0 l1 l2 l3) (x9 a b c) (q9 q q' q'') (u18 v v' v'') (t₀ + i) tt te e (lineS a b c tm)
  obtain ⟨κ, T, hT, K⟩ := contract noJs (by decide : 600 ≤ 600) hs E (andL_of trivial (factsS_ok ga gb gc he ht)) (accs_ok _ _ _) hc
  simp only [getAll, List.cons.injEq, and_true] at hT
  obtain ⟨o0, o1, o2, o3⟩ := hT
  have o0 := un_refs o0
  obtain ⟨qa, va, o1⟩ := un_dct o1
  obtain ⟨qb, vb, o2⟩ := un_dct o2
  obtain ⟨qc, vc, o3⟩ := un_dct o3
  obtain ⟨ar1, ar2, ag1, ag2, ab1, ab2⟩ := ga
  obtain ⟨br1, br2, bg1, bg2, bb1, bb2⟩ := gb
  obtain ⟨cr1, cr2, cg1, cg2, cb1, cb2⟩ := gc
  have w0 : lenI (lineS a b c tm 0) = a.r + tm := lenI_line (show 0 ≤ a.r by lia)
  have w1 : lenI (lineS a b c tm 1) = a.g + tm := lenI_line (show 0 ≤ a.g by lia)
  have w2 : lenI (lineS a b c tm 2) = a.b + tm := lenI_line (show 0 ≤ a.b by lia)
  have w3 : lenI (lineS a b c tm 3) = b.r + tm := lenI_line (show 0 ≤ b.r by lia)
  have w4 : lenI (lineS a b c tm 4) = b.g + tm := lenI_line (show 0 ≤ b.g by lia)
  have w5 : lenI (lineS a b c tm 5) = b.b + tm := lenI_line (show 0 ≤ b.b by lia)
  have w6 : lenI (lineS a b c tm 6) = c.r + tm := lenI_line (show 0 ≤ c.r by lia)
  have w7 : lenI (lineS a b c tm 7) = c.g + tm := lenI_line (show 0 ≤ c.g by lia)
  have w8 : lenI (lineS a b c tm 8) = c.b + tm := lenI_line (show 0 ≤ c.b by lia)
  rw [w0, w1, w2] at o1
  rw [w3, w4, w5] at o2
  rw [w6, w7, w8] at o3
  have a27 := had 27 (by decide) (by decide)
  have a32 := had 32 (by decide) (by decide)
  have a42 := had 42 (by decide) (by decide)
  have a52 := had 52 (by decide) (by decide)
  refine ⟨sOf (a.add tm) (b.add tm) (c.add tm) qa qb qc va vb vc (i + κ), ⟨rfl, rfl, rfl, rfl, rfl, rfl, rfl, rfl, rfl⟩, ?_⟩
  have z := K adO [(l0 + 2, refs3 n (l1 + 2) (l2 + 2) (l3 + 2)), (l1 + 2, dctF a q v), (l2 + 2, dctF b q' v'), (l3 + 2, dctF c q'' v'')] 61
    [(27, refs3 3 (adO 32) (adO 42) (adO 52)), (32, dctF (a.add tm) qa va), (42, dctF (b.add tm) qb vb), (52, dctF (c.add tm) qc vc)]
    argS_mem rfl (had 61 (by decide) (by decide)) (by
      intro p hp
      simp only [List.mem_cons, List.not_mem_nil, or_false] at hp
      rcases hp with rfl | rfl | rfl | rfl
      · refine ⟨27 + k, ?_, a27⟩
        rw [o0]
        show some (refs3 3 (adO 0 + (32 + k)) (adO 0 + (42 + k)) (adO 0 + (52 + k))) = some (refs3 3 (adO 32) (adO 42) (adO 52))
        rw [a32, a42, a52]
      · exact ⟨32 + k, o1, a32⟩
      · exact ⟨42 + k, o2, a42⟩
      · exact ⟨52 + k, o3, a52⟩)
  rw [a27]
  exact z
end
end Mine
namespace Mine
open PySem PySem.W PySem.W.X PySem.Calls PySem.Spec
/-- the law's own objects: times 2 makes three more within each sending -/
noncomputable def adL (b k j : Nat) : Nat := b + j + (if 56 ≤ j then k else 0) + (if 1587 ≤ j then k else 0)
theorem gapL_no {j : Nat} (h : gapL j = false) : j ≠ 55 ∧ j ≠ 1586 := by
  refine ⟨?_, ?_⟩ <;> (rintro rfl; cases h)
theorem adL_step (b k j : Nat) (h : gapL j = false) : adL b k (j + 1) = adL b k j + 1 := by
  obtain ⟨h1, h2⟩ := gapL_no h
  unfold adL
  (repeat' split) <;> lia
theorem adL_mono (b k : Nat) {i j : Nat} (h : i < j) : adL b k i < adL b k j := by
  unfold adL
  (repeat' split) <;> lia
theorem adL_run (b k m n : Nat) (h : 56 ≤ m) (h2 : m + n ≤ 1586) : adL b k (m + n) = adL b k m + n := by
  unfold adL
  (repeat' split) <;> lia
theorem adL_sent0 (b k n : Nat) (h : 1 ≤ n) (h2 : n ≤ 61) : adL b k (55 + n) = adL b k 55 + (n + k) := by
  unfold adL
  (repeat' split) <;> lia
theorem adL_sent1 (b k n : Nat) (h : 1 ≤ n) (h2 : n ≤ 61) : adL b k (1586 + n) = adL b k 1586 + (n + k) := by
  unfold adL
  (repeat' split) <;> lia
theorem adL_ge (b k j : Nat) : b ≤ adL b k j := by
  unfold adL
  (repeat' split) <;> lia
structure Raw (kt : Params → KT) : Prop where
  g : RawG kt
  e0 : ExR kt 21 tgE0
  e1 : ExR kt 16 tgE1
  p : ∀ bk, PaR kt bk
  s1 : SnR kt 1 tgS1 0
  s2 : SnR kt 2 tgS2 3
  l : ∀ n, n ≤ 9 → ∃ tg, LaR kt n tg
noncomputable def G1.tb (r : G1) (k : Nat) : Tb := ⟨r.y (3 * k), r.y (3 * k + 1), r.y (3 * k + 2)⟩
theorem tab_is (r : G1) (k : Nat) : r.tab k = dctF (r.tb k) (fun i => r.q (3 * k + i)) (fun i => r.v (6 * k + i)) := rfl
section
variable {kt : Params → KT} {prog : Program} {w : World}
theorem exch0 (H : Raw kt) {t : Int} (h0 : 0 ≤ t) (h2 : t ≤ 2) {r1 r2 : G1} {k1 k2 : Nat} (g1 : Gd t (r1.tb k1)) (g2 : Gd t (r2.tb k2)) (ad : Nat → Addr) (had : ∀ j, j ≤ 149 → ad j = ad 0 + j) (t₀ i tr : Nat) {a a' : Addr} (ha : 2 ≤ a) (ha' : 2 ≤ a') :
    ∃ r : G1, (r.tb 0 = fst (r1.tb k1) (r2.tb k2) ∧ r.tb 1 = snd (r1.tb k1) (r2.tb k2) ∧ r.y 6 = top2 (r1.tb k1) (r2.tb k2) - max (r1.tb k1).sum (r2.tb k2).sum) ∧
      GivenOk prog w (kt w.params).get 600 ad ⟨prog, w.params⟩ t₀ [(a, r1.tab k1), (a', r2.tab k2)] (.call (.ref 88) ⟨[.ref a, .ref a', .int 0 tr], []⟩) i (.ref (ad 148)) r.ι 149 [(148, threeV ad 134 139 (r.y 6) (r.v 12)), (134, r.tab 0), (139, r.tab 1)] := by
  obtain ⟨r, T, K⟩ := exch_of (prog := prog) (w := w) H.g H.e0 (.inl ⟨rfl, rfl⟩) h0 h2 g1 g2 ad had t₀ i tr ha ha' (fun i => r1.q (3 * k1 + i)) (fun i => r2.q (3 * k2 + i)) (fun i => r1.v (6 * k1 + i)) (fun i => r2.v (6 * k2 + i))
  exact ⟨r, ⟨tb_ext T.r0 T.g0 T.b0, tb_ext T.r1 T.g1 T.b1, T.n⟩, K⟩
theorem exch1 (H : Raw kt) {t : Int} (h0 : 0 ≤ t) (h2 : t ≤ 2) {r1 r2 : G1} {k1 k2 : Nat} (g1 : Gd t (r1.tb k1)) (g2 : Gd t (r2.tb k2)) (ad : Nat → Addr) (had : ∀ j, j ≤ 134 → ad j = ad 0 + j) (t₀ i tr : Nat) {a a' : Addr} (ha : 2 ≤ a) (ha' : 2 ≤ a') :
    ∃ r : G1, (r.tb 0 = fst (r1.tb k1) (r2.tb k2) ∧ r.tb 1 = snd (r1.tb k1) (r2.tb k2) ∧ r.y 6 = top2 (r1.tb k1) (r2.tb k2) - max (r1.tb k1).sum (r2.tb k2).sum) ∧
      GivenOk prog w (kt w.params).get 600 ad ⟨prog, w.params⟩ t₀ [(a, r1.tab k1), (a', r2.tab k2)] (.call (.ref 88) ⟨[.ref a, .ref a', .int 1 tr], []⟩) i (.ref (ad 133)) r.ι 134 [(133, threeV ad 119 124 (r.y 6) (r.v 12)), (119, r.tab 0), (124, r.tab 1)] := by
  obtain ⟨r, T, K⟩ := exch_of (prog := prog) (w := w) H.g H.e1 (.inr ⟨rfl, rfl⟩) h0 h2 g1 g2 ad had t₀ i tr ha ha' (fun i => r1.q (3 * k1 + i)) (fun i => r2.q (3 * k2 + i)) (fun i => r1.v (6 * k1 + i)) (fun i => r2.v (6 * k2 + i))
  exact ⟨r, ⟨tb_ext T.r0 T.g0 T.b0, tb_ext T.r1 T.g1 T.b1, T.n⟩, K⟩
theorem pair1 (H : Raw kt) {t : Int} (h0 : 0 ≤ t) (h2 : t ≤ 2) {r1 r2 : G1} {k1 k2 : Nat} (g1 : Gd t (r1.tb k1)) (g2 : Gd t (r2.tb k2)) (ad : Nat → Addr) (had : ∀ j, j ≤ 97 → ad j = ad 0 + j) (t₀ i : Nat) {a a' : Addr} (ha : 2 ≤ a) (ha' : 2 ≤ a') :
    ∃ r : G1, (r.tb 0 = fst (r1.tb k1) (r2.tb k2) ∧ r.tb 1 = snd (r1.tb k1) (r2.tb k2) ∧ r.y 6 = top2 (r1.tb k1) (r2.tb k2) - max (r1.tb k1).sum (r2.tb k2).sum) ∧
      GivenOk prog w (kt w.params).get 600 ad ⟨prog, w.params⟩ t₀ [(a, r1.tab k1), (a', r2.tab k2)] (.call (.ref 93) ⟨[.ref a, .ref a'], []⟩) i (.ref (ad 96)) r.ι 97 [(96, threeV ad 86 92 (r.y 6) (r.v 12)), (86, r.tab 0), (92, r.tab 1)] := by
  obtain ⟨r, T, K⟩ := pair_of (prog := prog) (w := w) H.p h0 h2 g1 g2 ad had t₀ i ha ha' (fun i => r1.q (3 * k1 + i)) (fun i => r2.q (3 * k2 + i)) (fun i => r1.v (6 * k1 + i)) (fun i => r2.v (6 * k2 + i))
  exact ⟨r, ⟨tb_ext T.r0 T.g0 T.b0, tb_ext T.r1 T.g1 T.b1, T.n⟩, K⟩
theorem sent1 {tm tg k : Nat} (HS : SnR kt tm tg k) (ht : tm = 1 ∨ tm = 2) {r1 r2 r3 : G1} {k1 k2 k3 : Nat} (g1 : Few (r1.tb k1)) (g2 : Few (r2.tb k2)) (g3 : Few (r3.tb k3)) {e : Str} (he : isEnd e.cps.toList) {u : Int} (hu : u = Int.ofNat tm)
    (ad : Nat → Addr) (had : ∀ j, 1 ≤ j → j ≤ 61 → ad j = ad 0 + (j + k)) (t₀ i n tt te : Nat) {l0 l1 l2 l3 : Addr} (h0 : 2 ≤ l0) (h1 : 2 ≤ l1) (h2 : 2 ≤ l2) (h3 : 2 ≤ l3) :
    ∃ r : G1, (r.tb 0 = (r1.tb k1).add u ∧ r.tb 1 = (r2.tb k2).add u ∧ r.tb 2 = (r3.tb k3).add u) ∧
      GivenOk prog w (kt w.params).get 600 ad ⟨prog, w.params⟩ t₀ [(l0, refs3 n l1 l2 l3), (l1, r1.tab k1), (l2, r2.tab k2), (l3, r3.tab k3)] (.call (.ref 98) ⟨[.ref l0, .int u tt, .str e te], []⟩) i (.ref (ad 27)) r.ι 61
        [(27, refs3 3 (ad 32) (ad 42) (ad 52)), (32, r.tab 0), (42, r.tab 1), (52, r.tab 2)] := by
  subst hu
  obtain ⟨r, T, K⟩ := sent_of (prog := prog) (w := w) HS ht g1 g2 g3 he ad had t₀ i n tt te h0 h1 h2 h3 (fun i => r1.q (3 * k1 + i)) (fun i => r2.q (3 * k2 + i)) (fun i => r3.q (3 * k3 + i)) (fun i => r1.v (6 * k1 + i)) (fun i => r2.v (6 * k2 + i)) (fun i => r3.v (6 * k3 + i))
  exact ⟨r, ⟨tb_ext T.e0 T.e1 T.e2, tb_ext T.e3 T.e4 T.e5, tb_ext T.e6 T.e7 T.e8⟩, K⟩
-- the plain law
theorem Gd.few {t : Int} {x : Tb} (h0 : 0 ≤ t) (h2 : t ≤ 2) (g : Gd t x) : Few x := by
  obtain ⟨a, b, c, d⟩ := g
  unfold Tb.sum at d
  constructor <;> lia
theorem Gd.add {x : Tb} (g : Gd 0 x) (t : Int) : Gd t (x.add t) := by
  obtain ⟨a, b, c, d⟩ := g
  unfold Tb.sum at d
  constructor
  · show _ ≤ x.r + t; lia
  · show _ ≤ x.g + t; lia
  · show _ ≤ x.b + t; lia
  · show x.r + t + (x.g + t) + (x.b + t) ≤ _; lia
theorem Gd.un {x : Tb} {t : Int} (g : Gd t x) : Gd 0 (x.add (-t)) ∧ x = (x.add (-t)).add t := by
  obtain ⟨a, b, c, d⟩ := g
  unfold Tb.sum at d
  refine ⟨⟨?_, ?_, ?_, ?_⟩, ?_⟩
  · show _ ≤ x.r + -t; lia
  · show _ ≤ x.g + -t; lia
  · show _ ≤ x.b + -t; lia
  · show x.r + -t + (x.g + -t) + (x.b + -t) ≤ _; lia
  · refine tb_ext ?_ ?_ ?_
    · show x.r = x.r + -t + t; lia
    · show x.g = x.g + -t + t; lia
    · show x.b = x.b + -t + t; lia
theorem Gd.exch {t : Int} {x y : Tb} (gx : Gd t x) (gy : Gd t y) : Gd t (fst x y) ∧ Gd t (snd x y) := by
  obtain ⟨hx, ex⟩ := gx.un
  obtain ⟨hy, ey⟩ := gy.un
  rw [ex, ey, fst_add, snd_add]
  generalize x.add (-t) = x at hx
  generalize y.add (-t) = y at hy
  have P := pos x y ⟨by have := hx.r1; lia, by have := hx.g1; lia, by have := hx.b1; lia⟩ ⟨by have := hy.r1; lia, by have := hy.g1; lia, by have := hy.b1; lia⟩
  have s1 := fst_sum x y
  have s2 := snd_sum x y
  have q1 := hx.s1
  have q2 := hy.s1
  obtain ⟨⟨a, b, c⟩, d, e, f⟩ := P
  exact ⟨Gd.add ⟨by lia, by lia, by lia, by lia⟩ t, Gd.add ⟨by lia, by lia, by lia, by lia⟩ t⟩
end
end Mine
namespace Mine
open PySem PySem.W PySem.W.X PySem.Calls PySem.Spec
theorem pt_in (n : Nat) (x : Nat → Int) (k : Nat) (c : Int) : 1 ≤ pt n x k c ∧ pt n x k c ≤ 8 := by
  show 1 ≤ 1 + bk n x k c % (8 : Int) ∧ 1 + bk n x k c % (8 : Int) ≤ 8
  lia
structure NineIn (p : Nine) : Prop where
  a : 1 ≤ p.a ∧ p.a ≤ 8
  b : 1 ≤ p.b ∧ p.b ≤ 8
  c : 1 ≤ p.c ∧ p.c ≤ 8
  d : 1 ≤ p.d ∧ p.d ≤ 8
  e : 1 ≤ p.e ∧ p.e ≤ 8
  f : 1 ≤ p.f ∧ p.f ≤ 8
  g : 1 ≤ p.g ∧ p.g ≤ 8
  h : 1 ≤ p.h ∧ p.h ≤ 8
  i : 1 ≤ p.i ∧ p.i ≤ 8
theorem nine_in (n : Nat) (x : Nat → Int) : NineIn (nineOf n x) := ⟨pt_in .., pt_in .., pt_in .., pt_in .., pt_in .., pt_in .., pt_in .., pt_in .., pt_in ..⟩
theorem nine_fit {p : Nine} (h : NineIn p) : ∀ A ∈ p.fit, A := by
  obtain ⟨a, b, c, d, e, f, g, h, i⟩ := h
  unfold Nine.fit inR
  refine all_cons ⟨by lia, by lia⟩ (all_cons ⟨by lia, by lia⟩ (all_cons ⟨by lia, by lia⟩ (all_cons ⟨by lia, by lia⟩ (all_cons ⟨by lia, by lia⟩ (all_cons ⟨by lia, by lia⟩ (all_cons ⟨by lia, by lia⟩ (all_cons ⟨by lia, by lia⟩ (all_cons ⟨by lia, by lia⟩ (by simp)))))))))
theorem end_in (p : Nine) (t : Nat) : ∃ e te, endF p t e te ∧ isEnd e.cps.toList := by
  have h0 : 0 ≤ p.half := by show 0 ≤ Z.divQ p.S 2 % (3 : Int); lia
  have h3 : p.half < 3 := by show Z.divQ p.S 2 % (3 : Int) < 3; lia
  have hc : p.half = 0 ∨ p.half = 1 ∨ p.half = 2 := by lia
  rcases hc with q | q | q
  · exact ⟨⟨⟨[10]⟩⟩, t, ⟨h0, by lia, by rw [q]; rfl⟩, .inl rfl⟩
  · exact ⟨⟨⟨[13]⟩⟩, t + 1, ⟨h0, by lia, by rw [q]; rfl⟩, .inr (.inl rfl)⟩
  · exact ⟨⟨⟨[13, 10]⟩⟩, t + 2, ⟨h0, by lia, by rw [q]; rfl⟩, .inr (.inr rfl)⟩
theorem times_in (p : Nine) : p.times = Int.ofNat 1 ∨ p.times = Int.ofNat 2 := by
  show 1 + p.S % (2 : Int) = 1 ∨ 1 + p.S % (2 : Int) = 2
  lia
/-- the law's own tables as a call's -/
noncomputable def bareG (P : Params) (t₀ n : Nat) (p : Nine) : G1 where
  y := fun k => match k with
    | 0 => p.a
    | 1 => p.b
    | 2 => p.c
    | 3 => p.d
    | 4 => p.e
    | 5 => p.f
    | 6 => p.g
    | 7 => p.h
    | _ => p.i
  q := fun k => match k % 3 with
    | 0 => hs P 114
    | 1 => hs P 103
    | _ => hs P 98
  v := fun k => match k with
    | 0 => t₀ + (103 + 28 * 0 + 3 * n)
    | 1 => t₀ + (20 + 15 * 0 + 3 * n)
    | 2 => t₀ + (111 + 28 * 0 + 3 * n)
    | 3 => t₀ + (25 + 15 * 0 + 3 * n)
    | 4 => t₀ + (119 + 28 * 0 + 3 * n)
    | 5 => t₀ + (30 + 15 * 0 + 3 * n)
    | 6 => t₀ + (103 + 28 * 1 + 3 * n)
    | 7 => t₀ + (20 + 15 * 1 + 3 * n)
    | 8 => t₀ + (111 + 28 * 1 + 3 * n)
    | 9 => t₀ + (25 + 15 * 1 + 3 * n)
    | 10 => t₀ + (119 + 28 * 1 + 3 * n)
    | 11 => t₀ + (30 + 15 * 1 + 3 * n)
    | 12 => t₀ + (103 + 28 * 2 + 3 * n)
    | 13 => t₀ + (20 + 15 * 2 + 3 * n)
    | 14 => t₀ + (111 + 28 * 2 + 3 * n)
    | 15 => t₀ + (25 + 15 * 2 + 3 * n)
    | 16 => t₀ + (119 + 28 * 2 + 3 * n)
    | _ => t₀ + (30 + 15 * 2 + 3 * n)
  ι := 0
theorem bare0 (P : Params) (t₀ n : Nat) (p : Nine) : (bareG P t₀ n p).tab 0 = bareT P t₀ n p.a p.b p.c 0 := rfl
theorem bare1 (P : Params) (t₀ n : Nat) (p : Nine) : (bareG P t₀ n p).tab 1 = bareT P t₀ n p.d p.e p.f 1 := rfl
theorem bare2 (P : Params) (t₀ n : Nat) (p : Nine) : (bareG P t₀ n p).tab 2 = bareT P t₀ n p.g p.h p.i 2 := rfl
theorem bare_gd {P : Params} {t₀ n : Nat} {p : Nine} (h : NineIn p) : Gd 0 ((bareG P t₀ n p).tb 0) ∧ Gd 0 ((bareG P t₀ n p).tb 1) ∧ Gd 0 ((bareG P t₀ n p).tb 2) := by
  obtain ⟨a, b, c, d, e, f, g, h, i⟩ := h
  refine ⟨⟨?_, ?_, ?_, ?_⟩, ⟨?_, ?_, ?_, ?_⟩, ⟨?_, ?_, ?_, ?_⟩⟩
  · show 1 + 0 ≤ p.a; lia
  · show 1 + 0 ≤ p.b; lia
  · show 1 + 0 ≤ p.c; lia
  · show p.a + p.b + p.c ≤ 24 + 3 * 0; lia
  · show 1 + 0 ≤ p.d; lia
  · show 1 + 0 ≤ p.e; lia
  · show 1 + 0 ≤ p.f; lia
  · show p.d + p.e + p.f ≤ 24 + 3 * 0; lia
  · show 1 + 0 ≤ p.g; lia
  · show 1 + 0 ≤ p.h; lia
  · show 1 + 0 ≤ p.i; lia
  · show p.g + p.h + p.i ≤ 24 + 3 * 0; lia
noncomputable def gvnOf (R : Nat → G1) : Gvn := ⟨fun j => (R j).y, fun j => (R j).q, fun j => (R j).v, fun j => (R j).ι⟩
noncomputable def tbT (x : Tb) : Dt := tbD x.r x.g x.b
theorem gvn_D (R : Nat → G1) (j k : Nat) : (gvnOf R).D j k = tbT ((R j).tb k) := rfl
theorem okA_ok : ∀ l : List (Nat × Obj), okA (lA l)
  | [] => trivial
  | (j, o) :: l => ⟨⟨by lia, rfl⟩, okA_ok l⟩
theorem modsF_of {ad : Nat → Addr} (h : ∀ j, ad j ≠ sysModules) : ∀ l, modsF ad l
  | [] => trivial
  | j :: l => ⟨h j, modsF_of h l⟩
theorem cmp2_of {ad : Nat → Addr} (h : ∀ j, ad j ≠ sysModules) {R : Nat → G1} {i j : Nat} (h0 : (R i).tb 0 = (R j).tb 0) (h1 : (R i).tb 1 = (R j).tb 1) (h6 : (R i).y 6 = (R j).y 6) (l r : List Nat) :
    cmpF ad [(gvnOf R).D i 0, (gvnOf R).D i 1, .int ((gvnOf R).y i 6)] (.list [(gvnOf R).D j 0, (gvnOf R).D j 1, .int ((gvnOf R).y j 6)]) l r := by
  refine ⟨?_, modsF_of h l, modsF_of h r⟩
  rw [gvn_D, gvn_D, gvn_D, gvn_D, h0, h1]
  show Dt.list [_, _, .int ((R i).y 6)] = Dt.list [_, _, .int ((R j).y 6)]
  rw [h6]
theorem cmp3_of {ad : Nat → Addr} (h : ∀ j, ad j ≠ sysModules) {R : Nat → G1} {i i' i'' k k' k'' : Nat} {x y z : Tb} (h0 : (R i).tb k = x) (h1 : (R i').tb k' = y) (h2 : (R i'').tb k'' = z) {d : Dt} (hd : d = .list [tbT x, tbT y, tbT z]) (l r : List Nat) :
    cmpF ad [(gvnOf R).D i k, (gvnOf R).D i' k', (gvnOf R).D i'' k''] d l r := by
  refine ⟨?_, modsF_of h l, modsF_of h r⟩
  rw [gvn_D, gvn_D, gvn_D, h0, h1, h2, hd]
theorem gv_of {G : Giv} {b : Bool} {P : Params} {prog : Program} {ad : Nat → Addr} {t₀ : Nat} {c : Cl} {r : Bk} {ι : Nat} (hb : parB b P = P)
    (h : G (fun n => ad (c.m + n)) ⟨prog, P⟩ t₀ (aA ad c.l) (.call (.ref c.f) ⟨c.vs, []⟩) c.i r.v ι r.mm r.objs) : gvF G b P prog ad t₀ c r ι := by
  unfold gvF
  rw [hb]
  exact ⟨okA_ok _, h⟩
end Mine
namespace Mine
open PySem PySem.W PySem.W.X PySem.Calls PySem.Spec
section
variable {kt : Params → KT} {prog : Program} {w : World}
theorem law_facts (H : Raw kt) {tm tg k : Nat} (HS : SnR kt tm tg k) (ht : tm = 1 ∨ tm = 2) {p : Nine} (hp : NineIn p) (hu : p.times = Int.ofNat tm) {e : Str} (te : Nat) (he : isEnd e.cps.toList) {s : Bool} (hs : parB s w.params = w.params)
    (base : Nat) (hb : 2 ≤ base) (t₀ n : Nat) : ∃ R : Nat → G1, ∀ A ∈ factsL (GivenOk prog w (kt w.params).get 600) s w.params prog (adL base k) t₀ n (gvnOf R) p e te, A := by
  have had : ∀ j, 2 ≤ adL base k j := fun j => Nat.le_trans hb (adL_ge base k j)
  have hmod : ∀ j, adL base k j ≠ sysModules := fun j => by
    have := had j
    show adL base k j ≠ 1
    lia
  have run : ∀ m c, 56 ≤ m → m + c ≤ 1586 → ∀ j, j ≤ c → (fun n => adL base k (m + n)) j = (fun n => adL base k (m + n)) 0 + j := fun m c h1 h2 j hj => by
    show adL base k (m + j) = adL base k (m + 0) + j
    rw [adL_run base k m j h1 (by lia), Nat.add_zero]
  have u0 : 0 ≤ p.times := by rw [hu]; exact Int.natCast_nonneg tm
  have u2 : p.times ≤ 2 := by rw [hu]; rcases ht with rfl | rfl <;> decide
  obtain ⟨bX, bY, bZ⟩ := bare_gd (P := w.params) (t₀ := t₀) (n := n) hp
  have z0 : (0 : Int) ≤ 0 := Int.le_refl 0
  have z2 : (0 : Int) ≤ 2 := by decide
  obtain ⟨r0, ⟨t00, t01, t02⟩, K0⟩ := sent1 (kt := kt) (prog := prog) (w := w) HS ht (bX.few z0 z2) (bY.few z0 z2) (bZ.few z0 z2) he hu (fun n => adL base k (55 + n)) (fun j h1 h2 => adL_sent0 base k j h1 h2) t₀ (189 + 3 * n) 3 (t₀ + (74 + 3 * n)) te (had 29) (had 34) (had 40) (had 46)
  have g00 : Gd p.times (r0.tb 0) := by rw [t00]; exact bX.add _
  have g01 : Gd p.times (r0.tb 1) := by rw [t01]; exact bY.add _
  have g02 : Gd p.times (r0.tb 2) := by rw [t02]; exact bZ.add _
  obtain ⟨r1, ⟨a1, b1, c1⟩, K1⟩ := exch0 (prog := prog) (w := w) H u0 u2 g00 g01 (fun n => adL base k (141 + n)) (run 141 149 (by decide) (by decide)) t₀ (r0.ι + 58) (t₀ + (185 + 3 * n)) (had 87) (had 97)
  obtain ⟨r2, ⟨a2, b2, c2⟩, K2⟩ := pair1 (prog := prog) (w := w) H u0 u2 g00 g01 (fun n => adL base k (290 + n)) (run 290 97 (by decide) (by decide)) t₀ (r1.ι + 3) (had 87) (had 97)
  have g1 := g00.exch g01
  rw [← a1, ← b1] at g1
  obtain ⟨r3, ⟨a3, b3, c3⟩, K3⟩ := exch0 (prog := prog) (w := w) H u0 u2 g1.2 g02 (fun n => adL base k (388 + n)) (run 388 149 (by decide) (by decide)) t₀ (r2.ι + 8) (t₀ + (185 + 3 * n)) (had 280) (had 107)
  obtain ⟨r4, ⟨a4, b4, c4⟩, K4⟩ := pair1 (prog := prog) (w := w) H u0 u2 g1.2 g02 (fun n => adL base k (537 + n)) (run 537 97 (by decide) (by decide)) t₀ (r3.ι + 3) (had 280) (had 107)
  have g3 := g1.2.exch g02
  rw [← a3, ← b3] at g3
  obtain ⟨r5, ⟨a5, b5, c5⟩, K5⟩ := exch0 (prog := prog) (w := w) H u0 u2 g1.1 g3.1 (fun n => adL base k (635 + n)) (run 635 149 (by decide) (by decide)) t₀ (r4.ι + 8) (t₀ + (185 + 3 * n)) (had 275) (had 522)
  obtain ⟨r6, ⟨a6, b6, c6⟩, K6⟩ := pair1 (prog := prog) (w := w) H u0 u2 g1.1 g3.1 (fun n => adL base k (784 + n)) (run 784 97 (by decide) (by decide)) t₀ (r5.ι + 3) (had 275) (had 522)
  obtain ⟨r7, ⟨a7, b7, c7⟩, K7⟩ := exch1 (prog := prog) (w := w) H z0 z2 bY bZ (fun n => adL base k (888 + n)) (run 888 134 (by decide) (by decide)) t₀ (r6.ι + 19) (t₀ + (r6.ι + 6)) (had 40) (had 46)
  obtain ⟨r8, ⟨a8, b8, c8⟩, K8⟩ := pair1 (prog := prog) (w := w) H z0 z2 bY bZ (fun n => adL base k (1022 + n)) (run 1022 97 (by decide) (by decide)) t₀ (r7.ι + 3) (had 40) (had 46)
  have g7 := bY.exch bZ
  rw [← a7, ← b7] at g7
  obtain ⟨r9, ⟨a9, b9, c9⟩, K9⟩ := exch1 (prog := prog) (w := w) H z0 z2 bX g7.1 (fun n => adL base k (1120 + n)) (run 1120 134 (by decide) (by decide)) t₀ (r8.ι + 8) (t₀ + (r6.ι + 6)) (had 34) (had 1007)
  obtain ⟨r10, ⟨a10, b10, c10⟩, K10⟩ := pair1 (prog := prog) (w := w) H z0 z2 bX g7.1 (fun n => adL base k (1254 + n)) (run 1254 97 (by decide) (by decide)) t₀ (r9.ι + 3) (had 34) (had 1007)
  have g9 := bX.exch g7.1
  rw [← a9, ← b9] at g9
  obtain ⟨r11, ⟨a11, b11, c11⟩, K11⟩ := exch1 (prog := prog) (w := w) H z0 z2 g9.2 g7.2 (fun n => adL base k (1352 + n)) (run 1352 134 (by decide) (by decide)) t₀ (r10.ι + 8) (t₀ + (r6.ι + 6)) (had 1244) (had 1012)
  obtain ⟨r12, ⟨a12, b12, c12⟩, K12⟩ := pair1 (prog := prog) (w := w) H z0 z2 g9.2 g7.2 (fun n => adL base k (1486 + n)) (run 1486 97 (by decide) (by decide)) t₀ (r11.ι + 3) (had 1244) (had 1012)
  have g11 := g9.2.exch g7.2
  rw [← a11, ← b11] at g11
  obtain ⟨r13, ⟨t0, t1, t2⟩, K13⟩ := sent1 (kt := kt) (prog := prog) (w := w) HS ht (g9.1.few z0 z2) (g11.1.few z0 z2) (g11.2.few z0 z2) he hu (fun n => adL base k (1586 + n)) (fun j h1 h2 => adL_sent1 base k j h1 h2) t₀ (r12.ι + 6) 0 (t₀ + (74 + 3 * n)) te (had 1583) (had 1239) (had 1471) (had 1476)
  let R : Nat → G1 := fun j => match j with
    | 0 => r0
    | 1 => r1
    | 2 => r2
    | 3 => r3
    | 4 => r4
    | 5 => r5
    | 6 => r6
    | 7 => r7
    | 8 => r8
    | 9 => r9
    | 10 => r10
    | 11 => r11
    | 12 => r12
    | _ => r13
  refine ⟨R, ?_⟩
  have m0 : mulF 0 := mulF_ok (by decide) (by decide)
  have m1 : mulF 1 := mulF_ok (by decide) (by decide)
  have m2 : mulF 2 := mulF_ok (by decide) (by decide)
  -- the roads meet
  have e0 : r5.tb 0 = r13.tb 0 := by
    rw [t0, a5, a9, a1, a3, a7, b1, t00, t01, t02, ybe_fst, fst_add, fst_add]
  have e1 : r5.tb 1 = r13.tb 1 := by
    rw [t1, b5, a11, a1, a3, b1, t00, t01, t02, ybe_mid, b9, b7, a7, fst_add, snd_add, snd_add, fst_add]
  have e2 : r3.tb 1 = r13.tb 2 := by
    rw [t2, b3, b11, b1, t00, t01, t02, ybe_snd, b9, b7, a7, fst_add, snd_add, snd_add, snd_add]
  unfold factsL
  dsimp only
  refine all_cons m0 (all_cons m0 (all_cons m0 (all_cons m1 (all_cons m1 (all_cons m1 (all_cons m2 (all_cons m2 (all_cons m2 (all_cons (gv_of hs ?k0) (all_cons (cmp3_of (R := R) (i := 0) (i' := 0) (i'' := 0) (k := 0) (k' := 1) (k'' := 2) hmod t00 t01 t02 (by rfl) _ _) (all_cons (gv_of hs ?k1) (all_cons (gv_of hs ?k2)
    (all_cons (cmp2_of hmod (i := 1) (j := 2) (a1.trans a2.symm) (b1.trans b2.symm) (c1.trans c2.symm) _ _) (all_cons (gv_of hs ?k3) (all_cons (gv_of hs ?k4) (all_cons (cmp2_of hmod (i := 3) (j := 4) (a3.trans a4.symm) (b3.trans b4.symm) (c3.trans c4.symm) _ _)
    (all_cons (gv_of hs ?k5) (all_cons (gv_of hs ?k6) (all_cons (cmp2_of hmod (i := 5) (j := 6) (a5.trans a6.symm) (b5.trans b6.symm) (c5.trans c6.symm) _ _) (all_cons (gv_of hs ?k7) (all_cons (gv_of hs ?k8) (all_cons (cmp2_of hmod (i := 7) (j := 8) (a7.trans a8.symm) (b7.trans b8.symm) (c7.trans c8.symm) _ _)
    (all_cons (gv_of hs ?k9) (all_cons (gv_of hs ?k10) (all_cons (cmp2_of hmod (i := 9) (j := 10) (a9.trans a10.symm) (b9.trans b10.symm) (c9.trans c10.symm) _ _) (all_cons (gv_of hs ?k11) (all_cons (gv_of hs ?k12) (all_cons (cmp2_of hmod (i := 11) (j := 12) (a11.trans a12.symm) (b11.trans b12.symm) (c11.trans c12.symm) _ _)
    (all_cons (gv_of hs ?k13) (all_cons (cmp3_of (R := R) (i := 5) (i' := 5) (i'' := 3) (k := 0) (k' := 1) (k'' := 1) hmod e0 e1 e2 (by rfl) _ _) (by simp)))))))))))))))))))))))))))))))
  case k0 => exact K0
  case k1 => exact K1
  case k2 => exact K2
  case k3 => exact K3
  case k4 => exact K4
  case k5 => exact K5
  case k6 => exact K6
  case k7 => exact K7
  case k8 => exact K8
  case k9 => exact K9
  case k10 => exact K10
  case k11 => exact K11
  case k12 => exact K12
  case k13 => exact K13
end
end Mine
namespace Mine
open PySem PySem.W PySem.W.X PySem.Calls PySem.Spec PyProof.Rows
noncomputable def iAt (l : List Value) (k : Nat) : Int := match l[k]? with
  | some (.int i _) => i
  | _ => 0
noncomputable def uAt (l : List Value) (k : Nat) : Nat := match l[k]? with
  | some (.int _ t) => t
  | _ => 0
theorem ints_at {vs : List Value} {ns : List Int} (h : IntsAre vs ns) : ∀ k, k < vs.length → vs[k]? = some (.int (iAt vs k) (uAt vs k)) := by
  induction h with
  | nil => intro k hk; exact absurd hk (Nat.not_lt_zero k)
  | cons n t _ ih =>
    intro k hk
    cases k with
    | zero => rfl
    | succ k =>
      have := ih k (Nat.lt_of_succ_lt_succ hk)
      exact this
theorem itFs_all {vs : Array Value} {ep : Nat} {x : Nat → Int} {u : Nat → Nat} : ∀ (n k : Nat) (l : List Prop), (∀ j, k ≤ j → j < k + n → itF vs ep x u j) → (∀ A ∈ l, A) → ∀ A ∈ itFs vs ep x u k n l, A
  | 0, _, _, _, h => h
  | n + 1, k, l, hj, h => all_cons (hj k (Nat.le_refl k) (by lia)) (itFs_all n (k + 1) l (fun j h1 h2 => hj j (by lia) (by lia)) h)
section
variable {kt : Params → KT} {prog : Program} {w : World}
theorem law_ok (H : Raw kt) {A : Around} {h : Heap} {g : Array GenState} {d : Drawn} {t₀ : Nat} {ox : OsState} {R : Result → Shared → Prop} (hA : A.handled = none) (hdep : A.depth ≤ 310) (hun : A.units ≤ 310) (hl : h.NoLimit)
    (hkt : ∀ a o, (kt w.params).get a = some o → h.get? a = some o) (hsz : 2 ≤ h.objs.size) {vs : List Value} {ns : List Int} (hI : IntsAre vs ns) (hlen : vs.length ≤ 900) (hscr : h.get? 104 = some (scriptO vs.toArray 0))
    (hR : ∀ h' t, (∀ b o, h.get? b = some o → h'.get? b = some o) → R (.ok (.ret (.bool true))) ⟨h', g, d, t, ox⟩) : codeAny (model prog w) A (.call (.ref 103) ⟨[.ref 104], []⟩) R ⟨h, g, d, t₀, ox⟩ := by
  obtain ⟨s, hs⟩ := par_of w.params
  obtain ⟨n, hn⟩ : ∃ n, n = min 9 vs.length := ⟨_, rfl⟩
  have hp := nine_in n (iAt vs)
  obtain ⟨tg, HL⟩ := H.l n (by lia)
  obtain ⟨e, te, hE, he⟩ := end_in (nineOf n (iAt vs)) (t₀ + (75 + 3 * n))
  have key : ∃ tm tgs k, SnR kt tm tgs k ∧ (tm = 1 ∨ tm = 2) ∧ (nineOf n (iAt vs)).times = Int.ofNat tm := by
    rcases times_in (nineOf n (iAt vs)) with q | q
    · exact ⟨1, tgS1, 0, H.s1, .inl rfl, q⟩
    · exact ⟨2, tgS2, 3, H.s2, .inr rfl, q⟩
  obtain ⟨tm, tgs, k, HS, ht, hu⟩ := key
  obtain ⟨Rs, hf⟩ := law_facts (prog := prog) H HS ht hp hu te he hs h.objs.size hsz t₀ n
  have E := HL s w.params prog (GivenOk prog w (kt w.params).get 600) (adL h.objs.size k) 102 vs.toArray 0 t₀ (Int.ofNat vs.length) (iAt vs) (uAt vs) e te (gvnOf Rs)
  have hmn : mnF (.ofNat n) 9 (Int.ofNat vs.length) := mnF_of (by
    rw [hn]
    show ((min 9 vs.length : Nat) : Int) = min 9 (vs.length : Int)
    lia)
  have hit : ∀ j, 0 ≤ j → j < 0 + n → itF vs.toArray 0 (iAt vs) (uAt vs) j := fun j _ hj => by
    refine ⟨Int.natCast_nonneg j, by show (j : Int) < _; lia, ?_⟩
    have := ints_at hI j (by lia)
    show vs.toArray[j]? = _
    rw [List.getElem?_toArray]
    exact this
  have hsize : sizeOf (some (scriptO vs.toArray 0)) = some (Int.ofNat vs.length) ∧ Int.ofNat vs.length < 1000 := ⟨rfl, by show (vs.length : Int) < 1000; lia⟩
  obtain ⟨ι, T, _, K⟩ := end2_ok (hkX_ok (prog := prog) (w := w) (kt w.params).get jsL 600) 20000 _ _ _ tg 0 [] E (andL_of trivial (all_cons hsize (all_cons hmn (itFs_all n 0 _ hit (all_app (nine_fit hp) (all_app (nine_fit hp) (all_cons hE hf))))))) (accs_ok _ _ _)
  have hev : EvOk prog w (kt w.params).get (evL kt s w.params prog (adL h.objs.size k) 102 vs.toArray 0 t₀) A h := by
    rw [show evL kt s w.params prog (adL h.objs.size k) 102 vs.toArray 0 t₀ = ⟨adL h.objs.size k, gapL, (kt w.params).get, arg1 104 (scriptO vs.toArray 0), ⟨prog, w.params⟩, t₀, 310, false⟩ by unfold evL; rw [hs]]
    exact { size := rfl, mono := fun i j hij => adL_mono _ k hij, step := fun j hj => adL_step _ k j hj, old := hkt, args := fun k a o x => by
              have := arg1_mem k a o x
              simp only [List.mem_singleton, Prod.mk.injEq] at this
              rw [this.1, this.2]; exact hscr
            st := rfl, lim := hl, top := hkt, hand := hA, dep := hdep, un := hun }
  exact K A R h g d ox hev fun h' D => hR h' _ D.keep
end
end Mine
open PySem PySem.W PySem.W.X PySem.W.ZRun PyProof.Rows
namespace Mine
theorem raw_of {kt : Params → KT} (a0 : Gr0 kt 0) (a1 : Gr0 kt 1) (a2 : Gr0 kt 2) (a3 : Gr0 kt 3) (a4 : Gr0 kt 4) (a5 : Gr0 kt 5) (a6 : Gr0 kt 6) (b0 : Gr1 kt 0) (b1 : Gr1 kt 1) (b2 : Gr1 kt 2) (b3 : Gr1 kt 3)
    (e0 : ExR kt 21 tgE0) (e1 : ExR kt 16 tgE1) (p0 : PaR kt true) (p1 : PaR kt false) (s1 : SnR kt 1 tgS1 0) (s2 : SnR kt 2 tgS2 3)
    (l0 : LaR kt 0 tgL0) (l1 : LaR kt 1 tgL1) (l2 : LaR kt 2 tgL2) (l3 : LaR kt 3 tgL3) (l4 : LaR kt 4 tgL4) (l5 : LaR kt 5 tgL5) (l6 : LaR kt 6 tgL6) (l7 : LaR kt 7 tgL7) (l8 : LaR kt 8 tgL8) (l9 : LaR kt 9 tgL9) : Raw kt where
  g := ⟨fun k hk => match k, hk with
    | 0, _ => a0
    | 1, _ => a1
    | 2, _ => a2
    | 3, _ => a3
    | 4, _ => a4
    | 5, _ => a5
    | 6, _ => a6, fun k hk => match k, hk with
    | 0, _ => b0
    | 1, _ => b1
    | 2, _ => b2
    | 3, _ => b3⟩
  e0 := e0
  e1 := e1
  p := fun bk => match bk with
    | true => p0
    | false => p1
  s1 := s1
  s2 := s2
  l := fun n hn => match n, hn with
    | 0, _ => ⟨_, l0⟩
    | 1, _ => ⟨_, l1⟩
    | 2, _ => ⟨_, l2⟩
    | 3, _ => ⟨_, l3⟩
    | 4, _ => ⟨_, l4⟩
    | 5, _ => ⟨_, l5⟩
    | 6, _ => ⟨_, l6⟩
    | 7, _ => ⟨_, l7⟩
    | 8, _ => ⟨_, l8⟩
    | 9, _ => ⟨_, l9⟩
theorem fin_of {kt : Params → KT} {c : ClaimW} {prog : Program} {w : World} {cl : Str → Option Addr} {mean : ExcName → Option Value} {args : List WData} {s₁ : Shared} (H : Raw kt) (ZH : KT.Holds s₁.heap 1 0 (kt w.params)) (hl : s₁.heap.NoLimit) (hsz : s₁.heap.objs.size = 104 + 1)
    (hg : s₁.gens = #[]) {vs : List Value} {ns : List Int} (hI : IntsAre vs ns) (hn : ¬ (63 : Int) < (ns.length : Int)) (hlen : vs.length = ns.length) (hscr : s₁.heap.get? 104 = some { cls := .type "list", data := .seq vs.toArray })
    (hr : ∀ cls, c.raises args cls = false) (hp : c.post args (.bool true) args = true) :
    wpAny (model prog w) callerA ((fun f vs => call f vs) (Value.ref 103) [Value.ref 104]) (fun v s' => GoodWG c cl mean args s₁ (.ok (.ret v)) s') (fun e s' => GoodWG c cl mean args s₁ (.error e) s') s₁ := by
  show wpAny (model prog w) callerA (call (Value.ref 103) [Value.ref 104]) _ _ s₁
  refine wpAny_call ?_
  obtain ⟨h, g, d, t, ox⟩ := s₁
  refine law_ok H rfl (by decide) (by decide) hl (fun a o e => kt_at ZH e) (by show 2 ≤ h.objs.size; rw [hsz]; decide) hI (by lia) hscr ?_
  intro h' t' hk
  exact ⟨.inl ⟨_, _, [], rfl, hr, ReadsW.bool true, hp, fun _ => ⟨List.nodup_nil, fun _ hm => (nomatch hm)⟩⟩, .of_keep hk, rfl, .of_eq hg⟩
end Mine
open PySem PySem.W PySem.W.X PySem.W.ZRun PyProof.Rows
set_option maxHeartbeats 0 in
theorem PySem.Challenge.cw_re0018_01_holds : PySem.Challenge.rw_re0018_01.Holds := by
  w_on; o_law; z_head; (case hw => w_witness2)
  have raw : Mine.Raw PySem.Challenge.cw_re0018_01_holds.ktop_220 := by
    refine Mine.raw_of ?_ ?_ ?_ ?_ ?_ ?_ ?_ ?_ ?_ ?_ ?_ ?_ ?_ ?_ ?_ ?_ ?_ ?_ ?_ ?_ ?_ ?_ ?_ ?_ ?_ ?_ ?_
    all_goals (intro b; cases b)
    all_goals
      grind =>
        tactic =>
          rename_i h
          exact absurd (by intro P; intros; kernel_rfl) h
  k_fill
  intro w s₀ s₁ mg mb G y fa o pm cd doc dV kV ho hd hcd hD hmg hg args vals as L hpre hlay hrd hwl hlo
  z_open y L KX ZH ZN ZT
  refine Ground.open G ?_
  intro T B D TE TW
  wrow_args hpre hlay hrd hwl hlo
  obtain ⟨hat, hsz⟩ := script_at L
  rw [ZN] at hat hsz
  subst hat
  x_fa T KX hmg
  all_lens
  rename_i hI hlen
  refine Mine.fin_of raw ZH T.nolimit hsz hg hI (by assumption) hlen.1 (script_obj L (by assumption)) (fun _ => rfl) (by first | rfl | wrow_post)
