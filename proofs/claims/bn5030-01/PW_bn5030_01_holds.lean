import PyProof.Rows.All
import Wide.All
import OpenK.AllK
import Wide.FinOn
import Lean
import PySem.Challenge.RW_bn5030_01
set_option Elab.async false
section
open PySem PySem.W PyProof.Rows
set_option maxRecDepth 10000
set_option autoImplicit false
set_option linter.unusedVariables false
namespace Mine

/-! abstract values -/
inductive BV where
  | none
  | bool (b : Bool)
  | int (i : Int)
  | ref (a : Addr)
  | val (v : Value)
inductive AV where
  | b (v : BV)
  | tup (xs : List BV)
abbrev AV.none : AV := .b .none
abbrev AV.bool (x : Bool) : AV := .b (.bool x)
abbrev AV.int (i : Int) : AV := .b (.int i)
abbrev AV.ref (a : Addr) : AV := .b (.ref a)
abbrev AV.val (v : Value) : AV := .b (.val v)
abbrev AV.pair (p : Int × Int) : AV := .tup [.int p.1, .int p.2]

def BRep : BV → Value → Prop
  | .none, v => v = .none
  | .bool b, v => v = .bool b
  | .int i, v => ∃ t, v = .int i t
  | .ref a, v => v = .ref a
  | .val c, v => v = c
def BReps : List BV → List Value → Prop
  | [], [] => True
  | x :: xs, v :: vs => BRep x v ∧ BReps xs vs
  | _, _ => False
abbrev tupObj (vs : Array Value) (n : Nat) : Obj := { cls := .type "tuple", data := .seq vs n }
def VRep (h : Heap) : AV → Value → Prop
  | .b x, v => BRep x v
  | .tup xs, v => ∃ a vs n, v = .ref a ∧ h.get? a = some (tupObj vs n) ∧ BReps xs vs.toList
def VReps (h : Heap) : List AV → List Value → Prop
  | [], [] => True
  | x :: xs, v :: vs => VRep h x v ∧ VReps h xs vs
  | _, _ => False

/-- every object of h stands in h' -/
def Ext (h h' : Heap) : Prop := ∀ b o, h.get? b = some o → h'.get? b = some o
/-- every tuple of h stands in h' -/
def TExt (h h' : Heap) : Prop := ∀ b vs n, h.get? b = some (tupObj vs n) → h'.get? b = some (tupObj vs n)
theorem Ext.refl (h : Heap) : Ext h h := fun _ _ e => e
theorem Ext.trans {h₁ h₂ h₃ : Heap} (x : Ext h₁ h₂) (y : Ext h₂ h₃) : Ext h₁ h₃ := fun b o e => y b o (x b o e)
theorem Ext.t {h h' : Heap} (x : Ext h h') : TExt h h' := fun b _ _ e => x b _ e
theorem Ext.push (h : Heap) (o : Obj) : Ext h (h.push o) := fun _ _ e => Heap.get?_push_of_some o e
theorem TExt.refl (h : Heap) : TExt h h := fun _ _ _ e => e
theorem TExt.trans {h₁ h₂ h₃ : Heap} (x : TExt h₁ h₂) (y : TExt h₂ h₃) : TExt h₁ h₃ := fun b vs n e => y b vs n (x b vs n e)
theorem TExt.but {h h' : Heap} {a : Addr} {o : Obj} (hs : Heap.SameBut a h h') (ho : h.get? a = some o) (hc : ∀ vs n, o ≠ tupObj vs n) : TExt h h' := fun b vs n e =>
  (hs.2 b (by rintro rfl; rw [ho] at e; cases e; exact hc _ _ rfl)).trans e

/-- an object stands, but for what a frame's slots hold -/
def Like (b : Addr) (o o' : Obj) : Prop := o' = o ∨ (126 < b ∧ o.cls = .type "frame" ∧ o'.cls = o.cls ∧ o'.dict = o.dict ∧ o'.data = o.data)
theorem Like.trans {z : Addr} {a b c : Obj} (x : Like z a b) (y : Like z b c) : Like z a c := by
  rcases x with rfl | ⟨a0, a1, a2, a3, a4⟩
  · exact y
  · rcases y with rfl | ⟨b0, b1, b2, b3, b4⟩
    · exact .inr ⟨a0, a1, a2, a3, a4⟩
    · exact .inr ⟨a0, a1, b2.trans a2, b3.trans a3, b4.trans a4⟩
def Kept (h : Heap) (b : Addr) (o : Obj) : Prop := ∃ o', h.get? b = some o' ∧ Like b o o'
theorem Kept.like {h : Heap} {b : Addr} {o o' : Obj} (k : Kept h b o') (l : Like b o o') : Kept h b o := let ⟨o2, e, r⟩ := k; ⟨o2, e, l.trans r⟩
theorem Kept.exact {h : Heap} {b : Addr} {o : Obj} (k : Kept h b o) (n : o.cls ≠ .type "frame") : h.get? b = some o :=
  let ⟨_, e, r⟩ := k; r.elim (fun q => q ▸ e) fun q => absurd q.2.1 n
theorem Kept.of {h : Heap} {b : Addr} {o : Obj} (e : h.get? b = some o) : Kept h b o := ⟨o, e, .inl rfl⟩
theorem Kept.data {h : Heap} {b : Addr} {o : Obj} (k : Kept h b o) : ∃ o', h.get? b = some o' ∧ o'.cls = o.cls ∧ o'.dict = o.dict ∧ o'.data = o.data :=
  let ⟨o', e, r⟩ := k; ⟨o', e, r.elim (fun q => q ▸ ⟨rfl, rfl, rfl⟩) fun q => q.2.2⟩
theorem Kept.oldx {h : Heap} {b : Addr} {o : Obj} (k : Kept h b o) (n : b ≤ 126) : h.get? b = some o :=
  let ⟨_, e, r⟩ := k; r.elim (fun q => q ▸ e) fun q => absurd q.1 (Nat.not_lt.mpr n)
theorem Kept.trans {h h' : Heap} {b : Addr} {o : Obj} (k : Kept h b o) (f : ∀ o', h.get? b = some o' → Kept h' b o') : Kept h' b o := by
  obtain ⟨o', e, r⟩ := k
  obtain ⟨o2, e2, r2⟩ := f o' e
  exact ⟨o2, e2, r.trans r2⟩
theorem Kept.step {h h' : Heap} {b : Addr} {o : Obj} (k : Kept h b o) (f : ∀ o', h.get? b = some o' → h'.get? b = some o') : Kept h' b o := k.trans fun o' e => .of (f o' e)
theorem Kept.lt {h : Heap} {b : Addr} {o : Obj} (k : Kept h b o) : b < h.objs.size := let ⟨_, e, _⟩ := k; Heap.lt_size e
/-- every object of h stands in h', but for the slots of frames -/
def ExtK (h h' : Heap) : Prop := ∀ b o, h.get? b = some o → Kept h' b o
theorem ExtK.t {h h' : Heap} (x : ExtK h h') : TExt h h' := fun b vs n e => (x b _ e).exact (by intro q; exact absurd (Value.type.inj q) (by decide))
theorem Ext.k {h h' : Heap} (x : Ext h h') : ExtK h h' := fun b o e => .of (x b o e)
theorem ExtK.trans {h₁ h₂ h₃ : Heap} (x : ExtK h₁ h₂) (y : ExtK h₂ h₃) : ExtK h₁ h₃ := fun b o e => (x b o e).trans fun o' => y b o'
theorem ns_k {h h' : Heap} {a : Addr} {m : Str → Option Value} (n : h.Ns a m) (k : ∀ o, h.get? a = some o → Kept h' a o) : h'.Ns a m := by
  obtain ⟨o, es, ep, e, d, r⟩ := n
  obtain ⟨o', e', _, _, d'⟩ := (k o e).data
  exact ⟨o', es, ep, e', d'.trans d, r⟩
theorem cell_k {h h' : Heap} {a : Addr} {v : Option Value} (n : h.IsCell a v) (k : ∀ o, h.get? a = some o → Kept h' a o) : h'.IsCell a v := by
  obtain ⟨o, e, d⟩ := n
  obtain ⟨o', e', _, _, d'⟩ := (k o e).data
  exact ⟨o', e', d'.trans d⟩
theorem code_k {h h' : Heap} {c : Value} {q : Str} (n : h.CodeRec c q) (k : ExtK h h') : h'.CodeRec c q := by
  obtain ⟨a, o, vs, tq, e1, e2, d, r⟩ := n
  obtain ⟨o', e', _, _, d'⟩ := (k _ _ e2).data
  exact ⟨a, o', vs, tq, e1, e', d'.trans d, r⟩
theorem nolim_k {h h' : Heap} (n : h.NoLimit) (k : ExtK h h') : h'.NoLimit := let ⟨mc, a, b⟩ := n; ⟨mc, ns_k a fun o => k _ o, b⟩

theorem VRep.t {h h' : Heap} (x : TExt h h') {v : AV} {c : Value} (r : VRep h v c) : VRep h' v c := by
  cases v with
  | b v => exact r
  | tup xs => obtain ⟨a, vs, n, e, g, q⟩ := r; exact ⟨a, vs, n, e, x _ _ _ g, q⟩
theorem VReps.t {h h' : Heap} (x : TExt h h') : ∀ {vs : List AV} {cs : List Value}, VReps h vs cs → VReps h' vs cs
  | [], [], _ => trivial
  | _ :: _, _ :: _, r => ⟨r.1.t x, VReps.t x r.2⟩
  | [], _ :: _, r => r.elim
  | _ :: _, [], r => r.elim
theorem VReps.length {h : Heap} : ∀ {vs : List AV} {cs : List Value}, VReps h vs cs → vs.length = cs.length
  | [], [], _ => rfl
  | _ :: _, _ :: _, r => congrArg (· + 1) r.2.length
  | [], _ :: _, r => r.elim
  | _ :: _, [], r => r.elim
theorem BReps.length : ∀ {vs : List BV} {cs : List Value}, BReps vs cs → vs.length = cs.length
  | [], [], _ => rfl
  | _ :: _, _ :: _, r => congrArg (· + 1) r.2.length
  | [], _ :: _, r => r.elim
  | _ :: _, [], r => r.elim
theorem BReps.toV {h : Heap} : ∀ {vs : List BV} {cs : List Value}, BReps vs cs → VReps h (vs.map .b) cs
  | [], [], _ => trivial
  | _ :: _, _ :: _, r => ⟨r.1, r.2.toV⟩
  | [], _ :: _, r => r.elim
  | _ :: _, [], r => r.elim
theorem BReps.ofV {h : Heap} : ∀ {vs : List BV} {cs : List Value}, VReps h (vs.map .b) cs → BReps vs cs
  | [], [], _ => trivial
  | _ :: _, _ :: _, r => ⟨r.1, BReps.ofV r.2⟩
  | [], _ :: _, r => r.elim
  | _ :: _, [], r => r.elim
theorem VReps.get {h : Heap} : ∀ {vs : List AV} {cs : List Value}, VReps h vs cs → ∀ {i : Nat} {v : AV}, vs[i]? = some v → ∃ c, cs[i]? = some c ∧ VRep h v c
  | [], [], _, i, v, e => by simp at e
  | x :: xs, c :: cs, r, 0, v, e => by simp at e; subst e; exact ⟨c, rfl, r.1⟩
  | x :: xs, c :: cs, r, i + 1, v, e => by simp at e; obtain ⟨d, hd, q⟩ := r.2.get e; exact ⟨d, by simpa using hd, q⟩
  | [], _ :: _, r, _, _, _ => r.elim
  | _ :: _, [], r, _, _, _ => r.elim
theorem VReps.append {h : Heap} : ∀ {vs : List AV} {cs : List Value} {vs' : List AV} {cs' : List Value}, VReps h vs cs → VReps h vs' cs' → VReps h (vs ++ vs') (cs ++ cs')
  | [], [], _, _, _, r => r
  | _ :: _, _ :: _, _, _, r, r' => ⟨r.1, VReps.append r.2 r'⟩
  | [], _ :: _, _, _, r, _ => r.elim
  | _ :: _, [], _, _, r, _ => r.elim
theorem VReps.set {h : Heap} {v : AV} {c : Value} (q : VRep h v c) : ∀ {vs : List AV} {cs : List Value} (i : Nat), VReps h vs cs → VReps h (vs.set i v) (cs.set i c)
  | [], [], _, _ => trivial
  | _ :: _, _ :: _, 0, r => ⟨q, r.2⟩
  | _ :: _, _ :: _, i + 1, r => ⟨r.1, VReps.set q i r.2⟩
  | [], _ :: _, _, r => r.elim
  | _ :: _, [], _, r => r.elim
theorem VReps.reverse {h : Heap} : ∀ {vs : List AV} {cs : List Value}, VReps h vs cs → VReps h vs.reverse cs.reverse
  | [], [], _ => trivial
  | _ :: _, _ :: _, r => by
    rw [List.reverse_cons, List.reverse_cons]; exact VReps.append (VReps.reverse r.2) ⟨r.1, trivial⟩
  | [], _ :: _, r => r.elim
  | _ :: _, [], r => r.elim
theorem VReps.take {h : Heap} : ∀ {vs : List AV} {cs : List Value} (n : Nat), VReps h vs cs → VReps h (vs.take n) (cs.take n)
  | _, _, 0, _ => trivial
  | [], [], _ + 1, _ => trivial
  | _ :: _, _ :: _, n + 1, r => ⟨r.1, VReps.take n r.2⟩
  | [], _ :: _, _ + 1, r => r.elim
  | _ :: _, [], _ + 1, r => r.elim
theorem VReps.drop {h : Heap} : ∀ {vs : List AV} {cs : List Value} (n : Nat), VReps h vs cs → VReps h (vs.drop n) (cs.drop n)
  | _, _, 0, r => r
  | [], [], _ + 1, _ => trivial
  | _ :: _, _ :: _, n + 1, r => VReps.drop n r.2
  | [], _ :: _, _ + 1, r => r.elim
  | _ :: _, [], _ + 1, r => r.elim
theorem VReps.replicate {h : Heap} {v : AV} {c : Value} (q : VRep h v c) : ∀ n : Nat, VReps h (List.replicate n v) (List.replicate n c)
  | 0 => trivial
  | n + 1 => ⟨q, VReps.replicate q n⟩
theorem VReps.ints {h : Heap} : ∀ {ns : List Int} {cs : List Value}, VReps h (ns.map .int) cs ↔ IntsAre cs ns
  | [], [] => ⟨fun _ => .nil, fun _ => trivial⟩
  | n :: ns, c :: cs => ⟨fun ⟨⟨t, e⟩, r⟩ => e ▸ .cons n t (VReps.ints.mp r), fun r => by cases r with | cons n t r => exact ⟨⟨t, rfl⟩, VReps.ints.mpr r⟩⟩
  | [], _ :: _ => ⟨fun r => r.elim, fun r => by cases r⟩
  | _ :: _, [] => ⟨fun r => r.elim, fun r => by cases r⟩

/-! abstract objects -/
inductive AObj where
  | list (xs : List AV)
  | ro (xs : List AV)
  | wset (S : List Int)
  | fset (S : List Int)
  | iset (S : List Int)
  | rset (S : List Int)
  | pset (S : List (Int × Int))
  | dd (es : List (Int × Addr))
  | rdd (es : List (Int × Addr))
  | rng (n : Int)
abbrev AHeap := Addr → Option AObj
abbrev Loc := Str → Option AV
def AHeap.upd (H : AHeap) (a : Addr) (o : AObj) : AHeap := fun b => if b = a then some o else H b
def Loc.upd (ρ : Loc) (x : Str) (v : AV) : Loc := fun y => if y = x then some v else ρ y
theorem AHeap.upd_self (H : AHeap) (a : Addr) (o : AObj) : H.upd a o a = some o := by simp [AHeap.upd]
theorem AHeap.upd_ne (H : AHeap) {a b : Addr} (o : AObj) (h : b ≠ a) : H.upd a o b = H b := by simp [AHeap.upd, h]
theorem Loc.upd_self (ρ : Loc) (x : Str) (v : AV) : ρ.upd x v x = some v := by simp [Loc.upd]
theorem Loc.upd_ne (ρ : Loc) {x y : Str} (v : AV) (h : y ≠ x) : ρ.upd x v y = ρ y := by simp [Loc.upd, h]

def LRep (h : Heap) (a : Addr) (xs : List AV) : Prop := ∃ vs n, h.get? a = some (listOf vs n) ∧ VReps h xs vs.toList
theorem LRep.isList {h : Heap} {a : Addr} {xs : List AV} (x : LRep h a xs) : ∃ vs, h.IsList a vs ∧ VReps h xs vs.toList :=
  let ⟨vs, n, g, r⟩ := x; ⟨vs, ⟨_, g, rfl, n, rfl⟩, r⟩


/-- what set orders the world follows -/
def byText (w : World) : Bool := w.params.followText "set-order"
abbrev setObj (es : Array (Int × Value)) (ep : Nat) (t : SetTable) : Obj := { cls := .type "set", data := .set es ep t }
/-- entries of ints, of pairs -/
def IEnts : List (Int × Value) → List Int → Prop
  | [], [] => True
  | e :: r, x :: xs => (∃ t, e = (hashInt x, .int x t)) ∧ IEnts r xs
  | _, _ => False
def pairHash (p : Int × Int) : Int := reduceHash (Builtin.Tuple.tupleHashOf [hashInt p.1, hashInt p.2])
def PEnts (h : Heap) : List (Int × Value) → List (Int × Int) → Prop
  | [], [] => True
  | e :: r, x :: xs => (e.1 = pairHash x ∧ VRep h (.pair x) e.2) ∧ PEnts h r xs
  | _, _ => False
/-- the table of a set of ints below 5 that was only added to -/
def cfg (led : Bool) (l : List Int) : SetTable := { mask := if l.length < 5 then 7 else 31, place := (l.map Int.toNat).toArray, dummies := #[], finger := 0, led, moves := if l.length < 5 then 0 else 1, plain := true }
/-- a set of ints below 5, its table of any kind -/
def WSet (h : Heap) (a : Addr) (l : List Int) : Prop :=
  ∃ es ep t, h.get? a = some (setObj es ep t) ∧ IEnts es.toList l ∧ l.Pairwise (· < ·) ∧ (∀ x ∈ l, 0 ≤ x ∧ x < 5) ∧ t.fits es.size = true
/-- a set of ints below 5, only added to -/
def ISet (w : World) (h : Heap) (a : Addr) (l : List Int) : Prop :=
  ∃ es ep, h.get? a = some (setObj es ep (cfg (!byText w) l)) ∧ IEnts es.toList l ∧ l.Pairwise (· < ·) ∧ ∀ x ∈ l, 0 ≤ x ∧ x < 5
/-- the look at a table for a hash, step by step -/
def look (mask : Nat) (h : Int) : Nat → SetTable.Probe
  | 0 => SetTable.probeStart { SetTable.fresh 0 0 false with mask } h
  | k + 1 => SetTable.advance { SetTable.fresh 0 0 false with mask } (look mask h k)
/-- the table of a set that was only added to: each of its hashes is found -/
structure PTab (t : SetTable) (hs : List Int) : Prop where
  size : t.place.size = hs.length
  rising : t.place.toList.Pairwise (· < ·)
  dum : t.dummies = #[]
  mask : (t.mask = 7 ∧ hs.length < 5) ∨ (t.mask = 31 ∧ hs.length < 16)
  below : ∀ j ∈ t.place.toList, j ≤ t.mask
  plain : t.plain = true
  way : ∀ (i : Nat) (h : Int), hs[i]? = some h → ∃ k, k < 40 ∧ t.place[i]? = some (look t.mask h k).j ∧ ∀ m, m < k → (look t.mask h m).j ∈ t.place.toList
/-- a set of pairs of ints below 5, only added to -/
def PSet (w : World) (h : Heap) (a : Addr) (l : List (Int × Int)) : Prop :=
  ∃ es ep t, h.get? a = some (setObj es ep t) ∧ PEnts h es.toList l ∧ l.Nodup ∧ (∀ p ∈ l, (0 ≤ p.1 ∧ p.1 < 5) ∧ 0 ≤ p.2 ∧ p.2 < 5) ∧ PTab t (l.map pairHash) ∧ t.led = !byText w
abbrev ddObj (es : Array DictEntry) (ep : Nat) : Obj := { cls := .type "collections.defaultdict", data := .dict es ep, slots := #[some (.type "set")] }
def DDEnts : List DictEntry → List (Int × Addr) → Prop
  | [], [] => True
  | e :: r, p :: ps => (∃ t, e = ⟨hashInt p.1, .int p.1 t, .ref p.2⟩) ∧ DDEnts r ps
  | _, _ => False
def DDRep (h : Heap) (a : Addr) (l : List (Int × Addr)) : Prop :=
  ∃ es ep, h.get? a = some (ddObj es ep) ∧ DDEnts es.toList l ∧ (l.map (·.1)).Nodup ∧ 1 < a

/-! the frame's and the heap's facts -/
structure Cx where
  prog : Program
  w : World
  gb : Heap
  hB : Addr → Option Obj
  gp : Array GenState → Prop
  os : OsState
  G : Str → Option Value
  sc : Scope
  room : Nat
  ro : Bool
  stk : Bool

structure Cx.Ok (C : Cx) : Prop where
  base : ∀ b o, C.gb.get? b = some o → ∃ o', C.hB b = some o' ∧ Like b o o'
  glob : ∃ mg mb, C.gb.Ns mainGlobals mg ∧ C.gb.Ns builtinsNs mb ∧ ∀ x v, C.G x = some v → mg x = some v ∨ (mg x = none ∧ mb x = some v)
  nolim : C.gb.NoLimit

/-- room inside the built-ins -/
structure AIn (k : Nat) (A : Around) : Prop where
  handled : A.handled = none
  units : A.units + k < cLine
theorem AIn.in1 {k : Nat} {A : Around} (x : AIn (k + 1) A) : AIn k A.in1 := ⟨x.handled, by have := x.units; show A.units + 1 + k < cLine; omega⟩
theorem AIn.le {k m : Nat} {A : Around} (x : AIn k A) (h : m ≤ k) : AIn m A := ⟨x.handled, by have := x.units; omega⟩
/-- a frame below: it is held -/
def Held (C : Cx) (e : Env) : Prop := (e.scope.kind ≠ .module ∧ ∀ L, e.frame = some L → 126 < L) ∧ ∃ L o, e.frame = some L ∧ C.hB L = some o ∧ o.cls = .type "frame"
structure AOk (C : Cx) (A : Around) (env : Env) : Prop where
  handled : A.handled = none
  depth : A.depth + C.room < recursionLimit
  units : A.units + 100 * C.room + 50 < cLine
  frames : C.stk = true → ∃ outer, A.frames = some (env :: outer) ∧ ∀ e ∈ outer, Held C e
theorem AOk.within {C : Cx} {A : Around} {env : Env} (x : AOk C A env) : AIn 50 A := ⟨x.handled, by have := x.units; omega⟩
theorem AOk.inner {C C' : Cx} {A : Around} {env env' : Env} (x : AOk C A env) (hr : C'.room = C.room) (hs : C'.stk = false) : AOk C' A env' :=
  ⟨x.handled, hr ▸ x.depth, hr ▸ x.units, fun h => by rw [hs] at h; cases h⟩
/-- the same where more is held -/
theorem AOk.more {C C' : Cx} {A : Around} {env : Env} (x : AOk C A env) (hr : C'.room = C.room) (hs : C'.stk = C.stk) (hB : ∀ b o, C.hB b = some o → C'.hB b = some o) : AOk C' A env :=
  ⟨x.handled, hr ▸ x.depth, hr ▸ x.units, fun h => let ⟨outer, h1, h2⟩ := x.frames (hs ▸ h); ⟨outer, h1, fun e he => let ⟨h3, L, o, h4, h5, h6⟩ := h2 e he; ⟨h3, L, o, h4, hB _ _ h5, h6⟩⟩⟩
structure FRep (C : Cx) (env : Env) (ρ : Loc) (h : Heap) : Prop where
  sc : env.scope = C.sc
  kind : C.sc.kind = .function
  gl : env.globals = mainGlobals
  bl : env.builtins = builtinsNs
  low : 126 < env.locals
  ns : ∃ m, h.Ns env.locals m ∧ ∀ x v, C.sc.names.lookup x = some .local → ρ x = some v → ∃ c, m x = some c ∧ VRep h v c
  cells : ∀ x, (C.sc.names.lookup x = some .cell ∨ C.sc.names.lookup x = some .free) → ∃ ca co, env.cells.lookup x = some ca ∧ h.IsCell ca co ∧ (∀ v, ρ x = some v → ∃ c, co = some c ∧ VRep h v c)
  apart : env.cells.Pairwise (fun x y => x.2 ≠ y.2)
  newL : C.hB env.locals = none
  newC : C.ro = false → ∀ p ∈ env.cells, C.hB p.2 = none
  cin : ∀ p ∈ env.cells, ∃ v, h.IsCell p.2 v
  frm : C.stk = true → env.frame = some env.locals ∧ ∃ o, h.get? env.locals = some o ∧ o.cls = .type "frame"

abbrev rangeObj (n : Int) (t u v : Tok) : Obj := { cls := .type "range", data := .fields #[.int 0 t, .int n u, .int 1 v] }
/-- what a held object looks like -/
def Shape (w : World) (h : Heap) (a : Addr) : AObj → Prop
  | .list xs | .ro xs => LRep h a xs
  | .wset S | .fset S => ∃ l, WSet h a l ∧ l.Perm S
  | .iset S | .rset S => ∃ l, ISet w h a l ∧ l.Perm S
  | .pset S => ∃ l, PSet w h a l ∧ l.Perm S
  | .dd es | .rdd es => DDRep h a es
  | .rng n => ∃ t u v, h.get? a = some (rangeObj n t u v)
def AObj.fz : AObj → Bool
  | .ro _ | .rset _ | .rdd _ | .fset _ => true
  | _ => false
def Main (o : Obj) : Prop := o.cls = .type "list" ∨ o.cls = .type "set" ∨ o.cls = .type "collections.defaultdict"
theorem Main.nf {o : Obj} (h : Main o) : o.cls ≠ .type "frame" := fun q => by
  rcases h with e | e | e <;> (rw [e] at q; exact absurd (Value.type.inj q) (by decide))
/-- a frozen one is among those that stand; another is none of them -/
def Place (C : Cx) (a : Addr) (o : AObj) : Prop := match o.fz with
  | true => ∃ ob, C.hB a = some ob ∧ Main ob
  | false => C.hB a = none
def ORep (C : Cx) (h : Heap) (a : Addr) (o : AObj) : Prop := Shape C.w h a o ∧ Place C a o

structure SRep (C : Cx) (env : Env) (ρ : Loc) (H : AHeap) (s : Shared) : Prop where
  keep : ∀ b o, C.hB b = some o → Kept s.heap b o
  fr : FRep C env ρ s.heap
  sep : H env.locals = none
  hp : ∀ a o, H a = some o → ORep C s.heap a o
  gens : C.gp s.gens
  os : s.os = C.os

theorem LRep.t {h h' : Heap} {a : Addr} {xs : List AV} (x : LRep h a xs) (t : TExt h h') (e : ∀ o, h.get? a = some o → h'.get? a = some o) : LRep h' a xs :=
  let ⟨vs, n, g, r⟩ := x; ⟨vs, n, e _ g, r.t t⟩
theorem WSet.t {h h' : Heap} {a : Addr} {l : List Int} (x : WSet h a l) (e : ∀ o, h.get? a = some o → h'.get? a = some o) : WSet h' a l :=
  let ⟨es, ep, t, g, r⟩ := x; ⟨es, ep, t, e _ g, r⟩
theorem ISet.t {w : World} {h h' : Heap} {a : Addr} {l : List Int} (x : ISet w h a l) (e : ∀ o, h.get? a = some o → h'.get? a = some o) : ISet w h' a l :=
  let ⟨es, ep, g, r⟩ := x; ⟨es, ep, e _ g, r⟩
theorem PEnts.t {h h' : Heap} (t : TExt h h') : ∀ {es : List (Int × Value)} {l : List (Int × Int)}, PEnts h es l → PEnts h' es l
  | [], [], _ => trivial
  | _ :: _, _ :: _, x => ⟨⟨x.1.1, x.1.2.t t⟩, PEnts.t t x.2⟩
  | [], _ :: _, x => x.elim
  | _ :: _, [], x => x.elim
theorem PSet.t {w : World} {h h' : Heap} {a : Addr} {l : List (Int × Int)} (x : PSet w h a l) (t : TExt h h') (e : ∀ o, h.get? a = some o → h'.get? a = some o) : PSet w h' a l :=
  let ⟨es, ep, tb, g, r, q⟩ := x; ⟨es, ep, tb, e _ g, r.t t, q⟩
theorem DDRep.t {h h' : Heap} {a : Addr} {l : List (Int × Addr)} (x : DDRep h a l) (e : ∀ o, h.get? a = some o → h'.get? a = some o) : DDRep h' a l :=
  let ⟨es, ep, g, r⟩ := x; ⟨es, ep, e _ g, r⟩
theorem LRep.ext {h h' : Heap} {a : Addr} {xs : List AV} (x : LRep h a xs) (t : Ext h h') : LRep h' a xs := x.t t.t fun o => t a o

theorem FRep.t {C : Cx} {env : Env} {ρ : Loc} {h h' : Heap} (x : FRep C env ρ h) (t : TExt h h') (eL : ∀ o, h.get? env.locals = some o → h'.get? env.locals = some o)
    (eC : ∀ c v, h.IsCell c v → h'.IsCell c v) : FRep C env ρ h' where
  sc := x.sc
  kind := x.kind
  gl := x.gl
  bl := x.bl
  low := x.low
  ns := let ⟨m, hn, hm⟩ := x.ns; ⟨m, hn.at' eL, fun y v h1 h2 => let ⟨c, h3, h4⟩ := hm y v h1 h2; ⟨c, h3, h4.t t⟩⟩
  cells := fun y hy => let ⟨ca, co, h1, h2, h3⟩ := x.cells y hy; ⟨ca, co, h1, eC _ _ h2, fun v hv => let ⟨c, h4, h5⟩ := h3 v hv; ⟨c, h4, h5.t t⟩⟩
  apart := x.apart
  newL := x.newL
  newC := x.newC
  cin := fun p hp => let ⟨v, hv⟩ := x.cin p hp; ⟨v, eC _ _ hv⟩
  frm := fun h => let ⟨h1, o, h2, h3⟩ := x.frm h; ⟨h1, o, eL _ h2, h3⟩
theorem FRep.ext {C : Cx} {env : Env} {ρ : Loc} {h h' : Heap} (x : FRep C env ρ h) (t : Ext h h') : FRep C env ρ h' :=
  x.t t.t (fun o => t _ o) fun c v ⟨o, ho, hd⟩ => ⟨o, t _ _ ho, hd⟩
theorem Shape.t {w : World} {h h' : Heap} {a : Addr} {o : AObj} (x : Shape w h a o) (t : TExt h h') (e : ∀ ob, h.get? a = some ob → h'.get? a = some ob) : Shape w h' a o := by
  cases o with
  | list xs => exact LRep.t x t e
  | ro xs => exact LRep.t x t e
  | wset S => obtain ⟨l, h1, h2⟩ := x; exact ⟨l, h1.t e, h2⟩
  | fset S => obtain ⟨l, h1, h2⟩ := x; exact ⟨l, h1.t e, h2⟩
  | iset S => obtain ⟨l, h1, h2⟩ := x; exact ⟨l, h1.t e, h2⟩
  | rset S => obtain ⟨l, h1, h2⟩ := x; exact ⟨l, h1.t e, h2⟩
  | pset S => obtain ⟨l, h1, h2⟩ := x; exact ⟨l, h1.t t e, h2⟩
  | dd es => exact DDRep.t x e
  | rdd es => exact DDRep.t x e
  | rng n => obtain ⟨t, u, v, g⟩ := x; exact ⟨t, u, v, e _ g⟩
theorem Shape.there {w : World} {h : Heap} {a : Addr} {o : AObj} (x : Shape w h a o) : ∃ ob, h.get? a = some ob ∧ (∀ v, ob.data ≠ .cell v) ∧ (∀ vs n, ob ≠ tupObj vs n) := by
  have tup : ∀ (ob : Obj) (T : String), ob.cls = .type T → T ≠ "tuple" → ∀ vs n, ob ≠ tupObj vs n := fun ob T h1 h2 vs n e => by rw [e] at h1; exact h2 (Value.type.inj h1).symm
  cases o with
  | list xs => obtain ⟨vs, n, g, _⟩ := x; exact ⟨_, g, fun v e => (nomatch e), tup _ _ rfl (by decide)⟩
  | ro xs => obtain ⟨vs, n, g, _⟩ := x; exact ⟨_, g, fun v e => (nomatch e), tup _ _ rfl (by decide)⟩
  | wset S => obtain ⟨_, ⟨_, _, _, g, _⟩, _⟩ := x; exact ⟨_, g, fun v e => (nomatch e), tup _ _ rfl (by decide)⟩
  | fset S => obtain ⟨_, ⟨_, _, _, g, _⟩, _⟩ := x; exact ⟨_, g, fun v e => (nomatch e), tup _ _ rfl (by decide)⟩
  | iset S => obtain ⟨_, ⟨_, _, g, _⟩, _⟩ := x; exact ⟨_, g, fun v e => (nomatch e), tup _ _ rfl (by decide)⟩
  | rset S => obtain ⟨_, ⟨_, _, g, _⟩, _⟩ := x; exact ⟨_, g, fun v e => (nomatch e), tup _ _ rfl (by decide)⟩
  | pset S => obtain ⟨_, ⟨_, _, _, g, _⟩, _⟩ := x; exact ⟨_, g, fun v e => (nomatch e), tup _ _ rfl (by decide)⟩
  | dd es => obtain ⟨_, _, g, _⟩ := x; exact ⟨_, g, fun v e => (nomatch e), tup _ _ rfl (by decide)⟩
  | rdd es => obtain ⟨_, _, g, _⟩ := x; exact ⟨_, g, fun v e => (nomatch e), tup _ _ rfl (by decide)⟩
  | rng n => obtain ⟨_, _, _, g⟩ := x; exact ⟨_, g, fun v e => (nomatch e), tup _ _ rfl (by decide)⟩
theorem ORep.t {C : Cx} {h h' : Heap} {a : Addr} {o : AObj} (x : ORep C h a o) (t : TExt h h') (e : ∀ ob, h.get? a = some ob → h'.get? a = some ob) : ORep C h' a o := ⟨x.1.t t e, x.2⟩
theorem ORep.ext {C : Cx} {h h' : Heap} {a : Addr} {o : AObj} (x : ORep C h a o) (t : Ext h h') : ORep C h' a o := x.t t.t fun o => t _ o
theorem SRep.ext {C : Cx} {env : Env} {ρ : Loc} {H : AHeap} {s s' : Shared} (x : SRep C env ρ H s) (t : Ext s.heap s'.heap) (hg : C.gp s'.gens) (ho : s'.os = s.os) : SRep C env ρ H s' where
  keep := fun b o e => (x.keep b o e).step fun o' => t b o'
  fr := x.fr.ext t
  sep := x.sep
  hp := fun a o e => (x.hp a o e).ext t
  gens := hg
  os := ho.trans x.os
theorem Shape.nf {w : World} {h : Heap} {a : Addr} {o : AObj} (x : Shape w h a o) {ob : Obj} (g : h.get? a = some ob) : ob.cls ≠ .type "frame" := by
  have no : ∀ (ob' : Obj) (T : String), h.get? a = some ob' → ob'.cls = .type T → T ≠ "frame" → ob.cls ≠ .type "frame" := fun ob' T g' hT hn q => by
    rw [g] at g'; cases g'; rw [hT] at q; exact hn (Value.type.inj q)
  cases o with
  | list xs => obtain ⟨vs, n, g', _⟩ := x; exact no _ _ g' rfl (by decide)
  | ro xs => obtain ⟨vs, n, g', _⟩ := x; exact no _ _ g' rfl (by decide)
  | wset S => obtain ⟨_, ⟨_, _, _, g', _⟩, _⟩ := x; exact no _ _ g' rfl (by decide)
  | fset S => obtain ⟨_, ⟨_, _, _, g', _⟩, _⟩ := x; exact no _ _ g' rfl (by decide)
  | iset S => obtain ⟨_, ⟨_, _, g', _⟩, _⟩ := x; exact no _ _ g' rfl (by decide)
  | rset S => obtain ⟨_, ⟨_, _, g', _⟩, _⟩ := x; exact no _ _ g' rfl (by decide)
  | pset S => obtain ⟨_, ⟨_, _, _, g', _⟩, _⟩ := x; exact no _ _ g' rfl (by decide)
  | dd es => obtain ⟨_, _, g', _⟩ := x; exact no _ _ g' rfl (by decide)
  | rdd es => obtain ⟨_, _, g', _⟩ := x; exact no _ _ g' rfl (by decide)
  | rng n => obtain ⟨_, _, _, g'⟩ := x; exact no _ _ g' rfl (by decide)
theorem Shape.k {w : World} {h h' : Heap} {a : Addr} {o : AObj} (x : Shape w h a o) (t : TExt h h') (e : ∀ ob, h.get? a = some ob → Kept h' a ob) : Shape w h' a o :=
  x.t t fun ob g => (e ob g).exact (x.nf g)
theorem FRep.k {C : Cx} {env : Env} {ρ : Loc} {h h' : Heap} (x : FRep C env ρ h) (t : TExt h h') (eL : ∀ o, h.get? env.locals = some o → Kept h' env.locals o) (eC : ∀ p ∈ env.cells, ∀ o, h.get? p.2 = some o → Kept h' p.2 o) : FRep C env ρ h' where
  sc := x.sc
  kind := x.kind
  gl := x.gl
  bl := x.bl
  low := x.low
  ns := let ⟨m, hn, hm⟩ := x.ns; ⟨m, ns_k hn eL, fun y v h1 h2 => let ⟨c, h3, h4⟩ := hm y v h1 h2; ⟨c, h3, h4.t t⟩⟩
  cells := fun y hy => let ⟨ca, co, h1, h2, h3⟩ := x.cells y hy; ⟨ca, co, h1, cell_k h2 (eC _ (mem_of_lookup h1)), fun v hv => let ⟨c, h4, h5⟩ := h3 v hv; ⟨c, h4, h5.t t⟩⟩
  apart := x.apart
  newL := x.newL
  newC := x.newC
  cin := fun p hp => let ⟨v, hv⟩ := x.cin p hp; ⟨v, cell_k hv (eC p hp)⟩
  frm := fun h => let ⟨h1, o, h2, h3⟩ := x.frm h; let ⟨o', h4, h5, _⟩ := (eL o h2).data; ⟨h1, o', h4, h5.trans h3⟩
/-- the state moves on: what is the frame's and what is held stands, but for the slots of frames -/
theorem SRep.moveK {C : Cx} {env : Env} {ρ : Loc} {H : AHeap} {s s' : Shared} (x : SRep C env ρ H s) (t : TExt s.heap s'.heap) (e : ∀ b o, (b = env.locals ∨ (∃ p ∈ env.cells, p.2 = b) ∨ H b ≠ none ∨ C.hB b ≠ none) → s.heap.get? b = some o → Kept s'.heap b o)
    (hg : C.gp s'.gens) (ho : s'.os = s.os) : SRep C env ρ H s' where
  keep := fun b o h => (x.keep b o h).trans fun o' => e b o' (.inr (.inr (.inr (by rw [h]; exact fun q => nomatch q))))
  fr := x.fr.k t (fun o => e _ o (.inl rfl)) fun p hp o => e _ o (.inr (.inl ⟨p, hp, rfl⟩))
  sep := x.sep
  hp := fun a o h => ⟨(x.hp a o h).1.k t fun ob => e a ob (.inr (.inr (.inl (by rw [h]; exact fun q => nomatch q)))), (x.hp a o h).2⟩
  gens := hg
  os := ho.trans x.os
theorem SRep.extK {C : Cx} {env : Env} {ρ : Loc} {H : AHeap} {s s' : Shared} (x : SRep C env ρ H s) (t : ExtK s.heap s'.heap) (hg : C.gp s'.gens) (ho : s'.os = s.os) : SRep C env ρ H s' :=
  x.moveK t.t (fun b o _ => t b o) hg ho
theorem SRep.to {C : Cx} {env : Env} {ρ : Loc} {H : AHeap} {s : Shared} (x : SRep C env ρ H s) {h' : Heap} (t : Ext s.heap h') {tk : Nat} : SRep C env ρ H { s with heap := h', toks := tk } :=
  x.ext t x.gens rfl
theorem SRep.tok {C : Cx} {env : Env} {ρ : Loc} {H : AHeap} {s : Shared} (x : SRep C env ρ H s) {tk : Nat} : SRep C env ρ H { s with toks := tk } :=
  x.ext (Ext.refl _) x.gens rfl
theorem SRep.add {C : Cx} {env : Env} {ρ : Loc} {H : AHeap} {s : Shared} {a : Addr} {o : AObj} (x : SRep C env ρ H s) (y : ORep C s.heap a o) (n : a ≠ env.locals) : SRep C env ρ (H.upd a o) s where
  keep := x.keep
  fr := x.fr
  sep := by rw [AHeap.upd_ne _ _ (Ne.symm n)]; exact x.sep
  hp := fun b o' e => by
    unfold AHeap.upd at e
    split at e
    · rename_i hb; subst hb; cases e; exact y
    · exact x.hp b o' e
  gens := x.gens
  os := x.os
theorem SRep.fresh {C : Cx} {env : Env} {ρ : Loc} {H : AHeap} {s : Shared} (x : SRep C env ρ H s) {a : Addr} (h : s.heap.objs.size ≤ a) : C.hB a = none := by
  cases e : C.hB a with
  | none => rfl
  | some o => exact absurd (x.keep _ _ e).lt (Nat.not_lt.mpr h)
theorem SRep.unheld {C : Cx} {env : Env} {ρ : Loc} {H : AHeap} {s : Shared} (x : SRep C env ρ H s) {a : Addr} (h : s.heap.objs.size ≤ a) : H a = none := by
  cases e : H a with
  | none => rfl
  | some o => obtain ⟨ob, g, _⟩ := (x.hp a o e).1.there; exact absurd (Heap.lt_size g) (Nat.not_lt.mpr h)
theorem SRep.st {C : Cx} {env : Env} {ρ : Loc} {H : AHeap} {s : Shared} (x : SRep C env ρ H s) (k : C.Ok) : ExtK C.gb s.heap := fun b o e => let ⟨o', h, l⟩ := k.base b o e; (x.keep b o' h).like l
theorem SRep.nolim {C : Cx} {env : Env} {ρ : Loc} {H : AHeap} {s : Shared} (k : C.Ok) (x : SRep C env ρ H s) : s.heap.NoLimit :=
  nolim_k k.nolim (x.st k)

theorem SRep.ltL {C : Cx} {env : Env} {ρ : Loc} {H : AHeap} {s : Shared} (x : SRep C env ρ H s) : env.locals < s.heap.objs.size := let ⟨_, hn, _⟩ := x.fr.ns; hn.lt

/-- a list, a set or a defaultdict of the call's own is changed -/
theorem SRep.change {C : Cx} {env : Env} {ρ : Loc} {H : AHeap} {s : Shared} (x : SRep C env ρ H s) {a : Addr} {ob : Obj} {o o' : AObj} {h' : Heap} {tk : Nat} (hH : H a = some o) (g : s.heap.get? a = some ob) (n : C.hB a = none)
    (hc : ∀ vs n, ob ≠ tupObj vs n) (hd : ∀ v, ob.data ≠ .cell v) (hs : Heap.ExtBut a s.heap h') (hr : TExt s.heap h' → ORep C h' a o') :
    SRep C env ρ (H.upd a o') { s with heap := h', toks := tk } := by
  have t : TExt s.heap h' := fun b vs n e => hs b _ (by rintro rfl; rw [g] at e; cases e; exact hc _ _ rfl) e
  have hL : env.locals ≠ a := fun q => by have := x.sep; rw [q, hH] at this; cases this
  have hk : ∀ b, b ≠ a → ∀ o, s.heap.get? b = some o → h'.get? b = some o := fun b hb o e => hs b o hb e
  refine ⟨fun b o e => (x.keep b o e).step (hk b (fun q => by rw [q, n] at e; cases e)), x.fr.t t (hk _ hL) (fun c v ⟨o, ho, hv⟩ => ⟨o, hk c (fun q => ?_) o ho, hv⟩), (by rw [AHeap.upd_ne _ _ hL]; exact x.sep), fun b o e => ?_, x.gens, x.os⟩
  · rw [q, g] at ho; cases ho; exact hd _ hv
  · unfold AHeap.upd at e
    split at e
    · rename_i hb; subst hb; cases e; exact hr t
    · rename_i hb
      exact (x.hp b o e).t t (hk b hb)

/-! what an expression, a test, a statement does -/
abbrev W (C : Cx) {α : Type} (A : Around) (t : Sem α) (Q : α → Shared → Prop) (s : Shared) : Prop := wpAny (model C.prog C.w) A t Q (fun _ _ => False) s
/-- an end: the value stands for av, the state for (ρ, H) -/
def EndV (C : Cx) (env : Env) (ρ : Loc) (Q : AV → AHeap → Prop) (h₀ : Heap) (v : Value) (s : Shared) : Prop := TExt h₀ s.heap ∧ ∃ av H, VRep s.heap av v ∧ SRep C env ρ H s ∧ Q av H
def TE (C : Cx) (e : Expr) (ρ : Loc) (H : AHeap) (Q : AV → AHeap → Prop) : Prop :=
  ∀ A env s, AOk C A env → SRep C env ρ H s → W C A (eval e env) (EndV C env ρ Q s.heap) s
def TEs (C : Cx) (es : List Expr) (ρ : Loc) (H : AHeap) (Q : List AV → AHeap → Prop) : Prop :=
  ∀ A env s pos, AOk C A env → SRep C env ρ H s → W C A (spliced (backTo pos (starEach es env))) (fun vs s' => TExt s.heap s'.heap ∧ ∃ avs H', VReps s'.heap avs vs ∧ SRep C env ρ H' s' ∧ Q avs H') s
def TT (C : Cx) (e : Expr) (ρ : Loc) (H : AHeap) (Q : Bool → AHeap → Prop) : Prop :=
  ∀ A env s, AOk C A env → SRep C env ρ H s → W C A (isTrue e env (eval e env)) (fun b s' => TExt s.heap s'.heap ∧ ∃ H', SRep C env ρ H' s' ∧ Q b H') s
inductive AFlow where
  | next | brk | cont
  | ret (v : AV)
def FlRep (h : Heap) : AFlow → Flow → Prop
  | .next, f => f = .next
  | .brk, f => f = .brk
  | .cont, f => f = .cont
  | .ret v, f => ∃ c, f = .ret c ∧ VRep h v c
def EndF (C : Cx) (env : Env) (Q : AFlow → Loc → AHeap → Prop) (f : Flow) (s : Shared) : Prop := ∃ af ρ H, FlRep s.heap af f ∧ SRep C env ρ H s ∧ Q af ρ H
def TS (C : Cx) (st : Stmt) (ρ : Loc) (H : AHeap) (Q : AFlow → Loc → AHeap → Prop) : Prop :=
  ∀ A env s, AOk C A env → SRep C env ρ H s → W C A (exec st env) (EndF C env Q) s
def TSs (C : Cx) (sts : List Stmt) (ρ : Loc) (H : AHeap) (Q : AFlow → Loc → AHeap → Prop) : Prop :=
  ∀ A env s, AOk C A env → SRep C env ρ H s → W C A (execs sts env) (EndF C env Q) s
/-- a tree over given values, whatever the frame -/
def T0 (C : Cx) (t : Sem Value) (H : AHeap) (Q : AV → AHeap → Prop) : Prop :=
  ∀ A env ρ s, AOk C A env → SRep C env ρ H s → W C A t (EndV C env ρ Q s.heap) s
def T1 (C : Cx) (t : Value → Sem Value) (a : AV) (H : AHeap) (Q : AV → AHeap → Prop) : Prop :=
  ∀ A env ρ s va, AOk C A env → SRep C env ρ H s → VRep s.heap a va → W C A (t va) (EndV C env ρ Q s.heap) s
def T2 (C : Cx) (t : Value → Value → Sem Value) (a b : AV) (H : AHeap) (Q : AV → AHeap → Prop) : Prop :=
  ∀ A env ρ s va vb, AOk C A env → SRep C env ρ H s → VRep s.heap a va → VRep s.heap b vb → W C A (t va vb) (EndV C env ρ Q s.heap) s
/-- a call of a value -/
def TC (C : Cx) (f : Value) (avs : List AV) (H : AHeap) (Q : AV → AHeap → Prop) : Prop :=
  ∀ A env ρ s vs, AOk C A env → SRep C env ρ H s → VReps s.heap avs vs → W C A (call f vs) (EndV C env ρ Q s.heap) s
/-- truth of a value -/
def TB (C : Cx) (a : AV) (H : AHeap) (Q : Bool → AHeap → Prop) : Prop :=
  ∀ A env ρ s va, AOk C A env → SRep C env ρ H s → VRep s.heap a va → W C A (truthy va) (fun b s' => TExt s.heap s'.heap ∧ ∃ H', SRep C env ρ H' s' ∧ Q b H') s
end Mine
end
section
open PySem PySem.W PyProof.Rows
open Sem (wp)
set_option maxRecDepth 10000
set_option autoImplicit false
set_option linter.unusedVariables false
namespace Mine
theorem putName_cls (name : Str) (h : Int) (key v : Value) (o : Obj) : (Obj.putName name h key v o).cls = o.cls := by
  obtain ⟨c, d, dt, sl⟩ := o
  cases dt with
  | dict es n =>
    simp only [Obj.putName_eq]
    unfold Obj.putNameByArray
    dsimp only
    split <;> rfl
  | _ => rfl
section
variable {M : Model} {A : Around} {E : Value → Shared → Prop} {s : Shared} {env : Env}
/-- a name is stored: what the object is stays -/
theorem nsSetC {a : Addr} {m : Str → Option Value} {name : Str} {v : Value} {Q : Unit → Shared → Prop} (hn : s.heap.Ns a m)
    (hQ : ∀ h', h'.Ns a (fun x => if x = name then some v else m x) → Heap.SameBut a s.heap h' → (∀ o, s.heap.get? a = some o → ∃ o', h'.get? a = some o' ∧ o'.cls = o.cls) → Q () { s with heap := h', toks := s.toks + 1 }) :
    wpAny M A (nsSet a name v) Q E s := by
  obtain ⟨o, es, ep, ho, hd, hk, hm⟩ := id hn
  have hany : es.any (·.refKey) = false := by
    rw [Array.any_eq_false']; intro e he; obtain ⟨n, t, h⟩ := hk e he; simp [DictEntry.refKey, h]
  intro Γ p hΓ
  have key := Sem.wp_nsSet M Γ (fun _ _ _ => False) p s hn name v (fun _ _ s' => s'.heap.Ns a (fun x => if x = name then some v else m x)) fun h' h1 _ => h1
  show wp M Γ (nsSet a name v) (fun a' _ s' => Q a' s') (fun e _ s' => E e s') p s
  simp only [nsSet, strHash, Sem.wp_bind', Sem.wp_cmd_ask, Sem.wp_pure', Sem.wp_cmd_mkText] at key ⊢
  rw [Sem.wp_loadPart_of M Γ _ p { s with toks := s.toks + 1 } (o := o) _ ho] at key ⊢
  simp only [hd, aRefKeyMayBeTheName_eq, aRefKeyMayBeTheNameByArray, hany, Bool.and_false, Bool.false_eq_true, if_false, Sem.wp_cmd_updatePart] at key ⊢
  refine ⟨key.1, hQ _ key.2 (Heap.SameBut.update ..) fun o' ho' => ?_⟩
  rw [ho] at ho'; cases ho'
  refine ⟨_, Heap.get?_update_self _ ho ?_, putName_cls _ _ _ _ _⟩
  obtain ⟨c, d, dt, sl⟩ := o
  dsimp only at hd
  subst hd
  simp only [Obj.putName_eq]
  unfold Obj.putNameByArray
  dsimp only
  split <;> rfl
/-- a frame's object -/
def FrameAt (h : Heap) (L : Addr) : Prop := ∃ o, h.get? L = some o ∧ o.cls = .type "frame"
theorem bindParamsK {s₀ : Shared} (f : Str × Value → PUnit → Sem (ForInStep PUnit)) (hf : ∀ n v u, f (n, v) u = (do storeName env n v; pure (.yield ⟨⟩))) (hk : env.scope.kind = .function) :
    ∀ (binds : List (Str × Value)) (m cm : Str → Option Value) (s : Shared) (Q : PUnit → Shared → Prop), InCallC s₀ env.locals m env.cells cm s → FrameAt s.heap env.locals →
      (∀ x ∈ binds, env.kindOf x.1 = some .local ∨ (env.kindOf x.1 = some .cell ∧ (env.cells.lookup x.1).isSome = true)) →
      (∀ s', InCallC s₀ env.locals (bindL env.kindOf binds m) env.cells (bindC env.kindOf binds cm) s' → FrameAt s'.heap env.locals → Q ⟨⟩ s') → wpAny M A (forIn binds ⟨⟩ f) Q E s
  | [], m, cm, s, Q, x, hF, _, h => by rw [List.forIn_nil]; exact wpAny_pure (h s x hF)
  | (n, v) :: r, m, cm, s, Q, x, hF, hkind, h => by
    rw [List.forIn_cons, hf]
    have hr : ∀ y ∈ r, env.kindOf y.1 = some .local ∨ (env.kindOf y.1 = some .cell ∧ (env.cells.lookup y.1).isSome = true) := fun y hy => hkind y (List.mem_cons_of_mem _ hy)
    obtain ⟨oF, hoF, hcF⟩ := hF
    rcases hkind (n, v) List.mem_cons_self with hl | ⟨hl, hc⟩
    · refine wpAny_bind (wpAny_bind ?_)
      rw [storeName_local hl (by rw [hk]; rfl)]
      refine nsSetC x.toInCall.ns fun h' hn' hs' hcl => ?_
      obtain ⟨o', ho', hc'⟩ := hcl oF hoF
      refine wpAny_pure (bindParamsK f hf hk r (fun y => if y = n then some v else m y) cm _ Q ⟨⟨?_, hn', fun b o e => ?_, x.toInCall.fresh⟩, fun k c hc => ?_, x.apart, x.above⟩ ⟨o', ho', hc'.trans hcF⟩ hr fun s'' x'' F'' => h s'' ?_ F'')
      · obtain ⟨h₁, tk, e⟩ := x.toInCall.same
        rw [e]; exact ⟨h', _, rfl⟩
      · exact hs'.extBut b o (Nat.ne_of_lt (Nat.lt_of_lt_of_le (Heap.lt_size e) x.toInCall.fresh)) (x.toInCall.keep b o e)
      · exact (x.cell k c hc).sameBut hs' (Nat.ne_of_gt (x.above k c (mem_of_lookup hc)))
      · unfold bindL bindC; rw [if_pos hl, if_pos hl]; exact x''
    · obtain ⟨c, hc⟩ := Option.isSome_iff_exists.mp hc
      have hnl : ¬ env.kindOf n = some .local := by rw [hl]; decide
      have hLc := x.above n c (mem_of_lookup hc)
      refine wpAny_bind (wpAny_bind (wpAny_storeName_cell hk hl hc (x.cell n c hc) fun h' hc' hs' => ?_))
      refine wpAny_pure (bindParamsK f hf hk r m (fun y => if y = n then some v else cm y) _ Q ⟨⟨?_, x.toInCall.ns.sameBut hs' (Nat.ne_of_lt hLc), fun b o e => ?_, x.toInCall.fresh⟩, fun k c' hk' => ?_, x.apart, x.above⟩ ⟨oF, (hs'.2 _ (Nat.ne_of_lt hLc)).trans hoF, hcF⟩ hr fun s'' x'' F'' => h s'' ?_ F'')
      · obtain ⟨h₁, tk, e⟩ := x.toInCall.same
        rw [e]; exact ⟨h', _, rfl⟩
      · exact hs'.extBut b o (Nat.ne_of_lt (Nat.lt_trans (Nat.lt_of_lt_of_le (Heap.lt_size e) x.toInCall.fresh) hLc)) (x.toInCall.keep b o e)
      · by_cases hkn : k = n
        · subst hkn
          rw [hc] at hk'; cases hk'
          simpa using hc'
        · rw [if_neg hkn]
          exact (x.cell k c' hk').sameBut hs' fun e => hkn (name_of_addr x.apart (mem_of_lookup hk') (e ▸ mem_of_lookup hc))
      · unfold bindL bindC; rw [if_neg hnl, if_neg hnl]; exact x''
theorem newEnvK {scope : Scope} {globals : Addr} {binds : List (Str × Value)} {qual : Str} {func : Option Addr} {code : Value} {builtins : Addr} {Q : Env → Shared → Prop}
    (hk : scope.kind = .function)
    (hkind : ∀ x ∈ binds, scope.names.lookup x.1 = some .local ∨ (scope.names.lookup x.1 = some .cell ∧ ((cellsFrom (s.heap.objs.size + 1) scope.names []).lookup x.1).isSome = true))
    (hQ : ∀ env, env = newEnv scope s.heap.objs.size globals (cellsFrom (s.heap.objs.size + 1) scope.names []) qual func code none builtins →
      ∀ s', InCallC s env.locals (bindL env.kindOf binds fun _ => none) env.cells (bindC env.kindOf binds fun _ => none) s' → FrameAt s'.heap env.locals → Q env s') :
    wpAny M A (newFunctionEnv scope globals [] binds qual func code none builtins) Q E s := by
  simp only [newFunctionEnv, Option.isSome_none, Bool.false_eq_true, if_false]
  refine wpAny_bind (wpAny_alloc ?_)
  refine wpAny_bind (wpAny_layCells _ (fun name kind cells => by cases hkc : kind == NameKind.cell <;> simp [hkc]) _ _ _ _ ?_)
  have ok := cellsFrom_ok scope.names (s.heap.push { cls := .type "frame", data := .dict #[] }) (s.heap.objs.size + 1) [] ⟨fun _ _ hm => (nomatch hm), List.Pairwise.nil⟩ (by rw [Heap.size_push]; exact Nat.le_refl _)
  rw [Heap.size_push] at ok
  rw [show ({ s with heap := s.heap.push { cls := .type "frame", data := .dict #[] } } : Shared).heap.objs.size = s.heap.objs.size + 1 from Heap.size_push ..]
  refine wpAny_bind (bindParamsK (s₀ := s) (env := newEnv scope s.heap.objs.size globals (cellsFrom (s.heap.objs.size + 1) scope.names []) qual func code none builtins)
    _ (fun _ _ _ => rfl) hk binds (fun _ => none) (fun _ => none) _ _
    ⟨⟨⟨_, _, rfl⟩, (Heap.Ns.new s.heap (.type "frame")).keeps (pushCells_keeps _ _), fun b o e => pushCells_keeps _ _ b o (Heap.get?_push_of_some _ e), Nat.le_refl _⟩,
      fun n c hc => (ok.empty n c (mem_of_lookup hc)).1, ok.apart, fun n c hm => (ok.empty n c hm).2⟩
    ⟨_, pushCells_keeps _ _ _ _ (Heap.get?_push_size _ rfl), rfl⟩ hkind fun s' x hF => wpAny_pure (hQ _ rfl s' x hF))
end
section
variable {prog : Program} {w : World} {A : Around} {s : Shared}
theorem call_cellsK {R : Result → Shared → Prop} {a : Addr} {o : Obj} {fd : FuncData} {body : List Stmt} {vals : List Value} {binds : List (Str × Value)}
    (hroom : A.depth < recursionLimit) (ho : s.heap.get? a = some o) (hdata : o.data = .func fd) (hlim : s.heap.NoLimit) (hcd : s.heap.CodeRec fd.code fd.qualname)
    (hbody : fd.body = .stmts body) (hbind : bindArgs fd ⟨vals, []⟩ = pure binds) (hclo : fd.closure = [])
    (hkind : ∀ x ∈ binds, fd.scope.names.lookup x.1 = some .local ∨ (fd.scope.names.lookup x.1 = some .cell ∧ ((cellsFrom (s.heap.objs.size + 1) fd.scope.names []).lookup x.1).isSome = true))
    (h : ∀ s₁, InCallC s (callEnvC fd s.heap.objs.size a).locals (bindL (callEnvC fd s.heap.objs.size a).kindOf binds fun _ => none) (callEnvC fd s.heap.objs.size a).cells
        (bindC (callEnvC fd s.heap.objs.size a).kindOf binds fun _ => none) s₁ → FrameAt s₁.heap (callEnvC fd s.heap.objs.size a).locals →
      wpAny (model prog w) (A.deeper (callEnvC fd s.heap.objs.size a)) (execs body (callEnvC fd s.heap.objs.size a)) (fun f s' => R (.ok (.ret (match f with | .ret v => v | _ => .none))) s')
        (fun e s' => wpAny (model prog w) (A.deeper (callEnvC fd s.heap.objs.size a)) (leaving (callEnvC fd s.heap.objs.size a) e) (fun _ s'' => R (.error e) s'') (fun e' s'' => R (.error e') s'') s') s₁)
    (hco : fd.scope.isCoroutine = false := by rfl) (hgen : fd.scope.isGenerator = false := by rfl) (hk : fd.scope.kind = .function := by rfl) :
    codeAny (model prog w) A (.call (.ref a) ⟨vals, []⟩) R s := by
  refine codeAny_call_function hroom ho hdata hco hgen hbody hcd ?_
  rw [hbind, hclo]
  refine wpAny_pure (newEnvK hk hkind fun env he s' x hF => ?_)
  subst he
  exact ⟨hlim.keeps x.toInCall.keep, codeAny_func (h s' x hF)⟩
end
end Mine
end
section
open PySem PySem.W PyProof.Rows
set_option maxRecDepth 10000
set_option autoImplicit false
set_option linter.unusedVariables false
namespace Mine
section
variable {C : Cx} {A : Around} {env : Env} {ρ : Loc} {H : AHeap} {s : Shared}

theorem FRep.kindOf {h : Heap} (x : FRep C env ρ h) (y : Str) : env.kindOf y = C.sc.names.lookup y := by unfold Env.kindOf; rw [x.sc]
theorem FRep.kindF {h : Heap} (x : FRep C env ρ h) : env.scope.kind = .function := by rw [x.sc]; exact x.kind

theorem SRep.storeL {x : Str} {v : AV} {c : Value} {Q : Unit → Shared → Prop} (r : SRep C env ρ H s) (hl : C.sc.names.lookup x = some .local) (hv : VRep s.heap v c)
    (h : ∀ s', SRep C env (ρ.upd x v) H s' → TExt s.heap s'.heap → Q () s') : W C A (bindName env x c) Q s := by
  obtain ⟨m, hn, hm⟩ := r.fr.ns
  refine wpAny_bindName ?_
  rw [storeName_local ((r.fr.kindOf x).trans hl) (by rw [r.fr.kindF]; rfl)]
  refine nsSetC hn fun h' hn' hs hcl => ?_
  obtain ⟨oL, es, ep, hoL, hdL, _⟩ := id hn
  have t : TExt s.heap h' := TExt.but hs hoL fun vs n e => by rw [e] at hdL; cases hdL
  have hc : ∀ c v, s.heap.IsCell c v → h'.IsCell c v := fun c v ⟨o, ho, hd⟩ => ⟨o, (hs.2 c fun q => by rw [q, hoL] at ho; cases ho; rw [hdL] at hd; cases hd).trans ho, hd⟩
  have ho : ∀ b o, b ≠ env.locals → s.heap.get? b = some o → h'.get? b = some o := fun b o n e => (hs.2 b n).trans e
  refine h _ ⟨fun b o e => (r.keep b o e).step fun o' => ho b o' (fun q => by rw [q, r.fr.newL] at e; cases e), ⟨r.fr.sc, r.fr.kind, r.fr.gl, r.fr.bl, r.fr.low, ⟨_, hn', fun y w h1 h2 => ?_⟩, fun y hy => ?_, r.fr.apart, r.fr.newL, r.fr.newC, fun p hp => (let ⟨v, hv⟩ := r.fr.cin p hp; ⟨v, hc _ _ hv⟩), fun hst => let ⟨q1, o, q2, q3⟩ := r.fr.frm hst; let ⟨o', q4, q5⟩ := hcl o q2; ⟨q1, o', q4, q5.trans q3⟩⟩, r.sep, fun a o e => ?_, r.gens, r.os⟩ t
  · by_cases q : y = x
    · subst q; rw [Loc.upd_self] at h2; cases h2; exact ⟨c, by simp, hv.t t⟩
    · rw [Loc.upd_ne _ _ q] at h2
      obtain ⟨d, h3, h4⟩ := hm y w h1 h2
      exact ⟨d, by simpa [q] using h3, h4.t t⟩
  · obtain ⟨ca, co, h1, h2, h3⟩ := r.fr.cells y hy
    refine ⟨ca, co, h1, hc _ _ h2, fun w hw => ?_⟩
    have q : y ≠ x := by rintro rfl; rcases hy with e | e <;> rw [hl] at e <;> cases e
    rw [Loc.upd_ne _ _ q] at hw
    obtain ⟨d, h4, h5⟩ := h3 w hw
    exact ⟨d, h4, h5.t t⟩
  · have na : a ≠ env.locals := by rintro rfl; rw [r.sep] at e; cases e
    exact (r.hp a o e).t t fun o => ho a o na

theorem SRep.storeC {x : Str} {v : AV} {c : Value} {Q : Unit → Shared → Prop} (r : SRep C env ρ H s) (hro : C.ro = false) (hl : C.sc.names.lookup x = some .cell) (hv : VRep s.heap v c)
    (h : ∀ s', SRep C env (ρ.upd x v) H s' → TExt s.heap s'.heap → Q () s') : W C A (bindName env x c) Q s := by
  obtain ⟨ca, co, hca, hcell, _⟩ := r.fr.cells x (.inl hl)
  refine wpAny_bindName (wpAny_storeName_cell r.fr.kindF ((r.fr.kindOf x).trans hl) hca hcell fun h' hv' hs => ?_)
  obtain ⟨oc, hoc, hdc⟩ := id hcell
  have t : TExt s.heap h' := TExt.but hs hoc fun vs n e => by rw [e] at hdc; cases hdc
  have newC : C.hB ca = none := r.fr.newC hro (x, ca) (mem_of_lookup hca)
  have ho : ∀ b o, b ≠ ca → s.heap.get? b = some o → h'.get? b = some o := fun b o n e => (hs.2 b n).trans e
  obtain ⟨m, hn, hm⟩ := r.fr.ns
  obtain ⟨oL, es, ep, hoL, hdL, _⟩ := id hn
  have hL : env.locals ≠ ca := fun q => by rw [q, hoc] at hoL; cases hoL; rw [hdc] at hdL; cases hdL
  refine h { s with heap := h' } ⟨fun b o e => (r.keep b o e).step fun o' => ho b o' (fun q => by rw [q, newC] at e; cases e), ⟨r.fr.sc, r.fr.kind, r.fr.gl, r.fr.bl, r.fr.low, ⟨m, hn.at' fun o => ho _ o hL, fun y w h1 h2 => ?_⟩, fun y hy => ?_, r.fr.apart, r.fr.newL, r.fr.newC, fun p hp => (if q : p.2 = ca then ⟨_, q ▸ hv'⟩ else let ⟨v, ob, h1, h2⟩ := r.fr.cin p hp; ⟨v, ob, ho _ _ q h1, h2⟩), fun hst => let ⟨q1, o, q2, q3⟩ := r.fr.frm hst; ⟨q1, o, ho _ _ hL q2, q3⟩⟩, r.sep, fun a o e => ?_, r.gens, r.os⟩ t
  · have q : y ≠ x := by rintro rfl; rw [hl] at h1; cases h1
    rw [Loc.upd_ne _ _ q] at h2
    obtain ⟨d, h3, h4⟩ := hm y w h1 h2
    exact ⟨d, h3, h4.t t⟩
  · by_cases q : y = x
    · subst q
      exact ⟨ca, _, hca, hv', fun w hw => by rw [Loc.upd_self] at hw; cases hw; exact ⟨c, rfl, hv.t t⟩⟩
    · obtain ⟨cb, co', h1, ⟨ob, h2, h2'⟩, h3⟩ := r.fr.cells y hy
      have hne : cb ≠ ca := fun e => q (name_of_addr r.fr.apart (mem_of_lookup h1) (e ▸ mem_of_lookup hca))
      refine ⟨cb, co', h1, ⟨ob, ho _ _ hne h2, h2'⟩, fun w hw => ?_⟩
      rw [Loc.upd_ne _ _ q] at hw
      obtain ⟨d, h4, h5⟩ := h3 w hw
      exact ⟨d, h4, h5.t t⟩
  · have y := r.hp a o e
    obtain ⟨ob, g, hd, _⟩ := y.1.there
    exact y.t t fun o => ho a o fun q => by rw [q, hoc] at g; cases g; exact hd _ hdc

/-- a name that the frame may store -/
def stOk (C : Cx) (x : Str) : Bool := match C.sc.names.lookup x with
  | some .local => true
  | some .cell => !C.ro
  | _ => false
theorem SRep.store {x : Str} {v : AV} {c : Value} {Q : Unit → Shared → Prop} (r : SRep C env ρ H s) (hl : stOk C x = true) (hv : VRep s.heap v c)
    (h : ∀ s', SRep C env (ρ.upd x v) H s' → TExt s.heap s'.heap → Q () s') : W C A (bindName env x c) Q s := by
  unfold stOk at hl
  split at hl
  · rename_i e; exact r.storeL e hv h
  · rename_i e; exact r.storeC (by simpa using hl) e hv h
  · cases hl

/-- a name of the frame's that is read -/
def ldOk (sc : Scope) (x : Str) : Bool := (match sc.names.lookup x with
  | some .local | some .cell | some .free => true
  | _ => false) && !(x == ("__debug__" : Str)) && !(x == ("__classdict__" : Str))
def glOk (sc : Scope) (x : Str) : Bool := (match sc.names.lookup x with
  | some .globalImplicit => true
  | _ => false) && !(x == ("__debug__" : Str))

theorem TE_name {x : Str} {pos : Pos} {v : AV} {Q : AV → AHeap → Prop} (hk : ldOk C.sc x = true) (hv : ρ x = some v) (h : Q v H) : TE C (.Name x pos) ρ H Q := fun A env s ok r => by
  unfold ldOk at hk
  simp only [Bool.and_eq_true, Bool.not_eq_true'] at hk
  obtain ⟨⟨hk, hd⟩, hcd⟩ := hk
  refine wpAny_Name ?_ hd
  split at hk
  · rename_i e
    obtain ⟨m, hn, hm⟩ := r.fr.ns
    obtain ⟨c, h1, h2⟩ := hm x v e hv
    exact wpAny_loadName_local r.fr.kindF ((r.fr.kindOf x).trans e) hn h1 ⟨TExt.refl _, v, H, h2, r, h⟩
  · rename_i e
    obtain ⟨ca, co, h1, h2, h3⟩ := r.fr.cells x (.inl e)
    obtain ⟨c, rfl, h5⟩ := h3 v hv
    exact wpAny_loadName_cell r.fr.kindF ((r.fr.kindOf x).trans e) h1 h2 ⟨TExt.refl _, v, H, h5, r, h⟩
  · rename_i e
    obtain ⟨ca, co, h1, h2, h3⟩ := r.fr.cells x (.inr e)
    obtain ⟨c, rfl, h5⟩ := h3 v hv
    exact wpAny_loadName_free r.fr.kindF ((r.fr.kindOf x).trans e) h1 h2 ⟨TExt.refl _, v, H, h5, r, h⟩ hcd
  · cases hk

theorem TE_global {x : Str} {pos : Pos} {v : Value} {Q : AV → AHeap → Prop} (k : C.Ok) (hk : glOk C.sc x = true) (hv : C.G x = some v) (h : Q (.val v) H) : TE C (.Name x pos) ρ H Q := fun A env s ok r => by
  unfold glOk at hk
  simp only [Bool.and_eq_true, Bool.not_eq_true'] at hk
  obtain ⟨hk, hd⟩ := hk
  refine wpAny_Name ?_ hd
  split at hk
  · rename_i e
    obtain ⟨mg, mb, hg, hb, hG⟩ := k.glob
    have st : ExtK C.gb s.heap := r.st k
    have fin : EndV C env ρ Q s.heap v s := ⟨TExt.refl _, .val v, H, rfl, r, h⟩
    unfold loadName
    simp only [Env.blockKind, r.fr.kindF, (r.fr.kindOf x).trans e, ScopeKind.isAnnotationScope, Bool.false_and, Bool.false_eq_true, if_false]
    unfold loadGlobal
    rw [r.fr.gl, r.fr.bl]
    refine wpAny_bind (wpAny_nsGet (ns_k hg fun o => st _ o) ?_)
    rcases hG x v hv with h1 | ⟨h1, h2⟩
    · rw [h1]; exact wpAny_pure fin
    · rw [h1]
      refine wpAny_bind (wpAny_nsGet (ns_k hb fun o => st _ o) ?_)
      rw [h2]; exact wpAny_pure fin
  · cases hk

theorem TE_int {i : Int} {k : Nat} {pos : Pos} {Q : AV → AHeap → Prop} (h : Q (.int i) H) : TE C (.Constant (.int i) k pos) ρ H Q := fun A env s ok r =>
  wpAny_Constant_int ⟨TExt.refl _, .int i, H, ⟨_, rfl⟩, r.tok, h⟩
theorem TE_bool {b : Bool} {k : Nat} {pos : Pos} {Q : AV → AHeap → Prop} (h : Q (.bool b) H) : TE C (.Constant (.bool b) k pos) ρ H Q := fun A env s ok r =>
  wpAny_Constant_bool ⟨TExt.refl _, .bool b, H, rfl, r, h⟩

theorem EndV.mono {Q Q' : AV → AHeap → Prop} {h₀ : Heap} {v : Value} (x : EndV C env ρ Q h₀ v s) (h : ∀ a H, Q a H → Q' a H) : EndV C env ρ Q' h₀ v s :=
  let ⟨t, a, H, h1, h2, h3⟩ := x; ⟨t, a, H, h1, h2, h _ _ h3⟩
theorem EndV.t {Q : AV → AHeap → Prop} {h₀ h₁ : Heap} {v : Value} (x : EndV C env ρ Q h₁ v s) (h : TExt h₀ h₁) : EndV C env ρ Q h₀ v s :=
  let ⟨t, r⟩ := x; ⟨h.trans t, r⟩

theorem W.mono {α : Type} {t : Sem α} {Q Q' : α → Shared → Prop} (x : W C A t Q s) (h : ∀ a s', Q a s' → Q' a s') : W C A t Q' s := wpAny_mono x h fun _ _ e => e
theorem TE.mono {e : Expr} {Q Q' : AV → AHeap → Prop} (x : TE C e ρ H Q) (h : ∀ a H, Q a H → Q' a H) : TE C e ρ H Q' := fun A env s ok r => (x A env s ok r).mono fun _ _ y => y.mono h

/-- two operands, the left held while the right is reckoned -/
theorem T_two {l r : Expr} {Q : AV → AHeap → Prop} {t : Value → Value → Sem Value} (ok : AOk C A env) (R : SRep C env ρ H s)
    (h : TE C l ρ H fun a H₁ => TE C r ρ H₁ fun b H₂ => T2 C t a b H₂ Q) :
    W C A (eval l env) (fun a s₁ => W C A (eval r env) (fun b s₂ => W C A (t a b) (EndV C env ρ Q s.heap) s₂) s₁) s :=
  (h A env s ok R).mono fun a s₁ ⟨t₁, a', H₁, h1, h2, h3⟩ => (h3 A env s₁ ok h2).mono fun b s₂ ⟨t₂, b', H₂, h4, h5, h6⟩ =>
    (h6 A env ρ s₂ a b ok h5 (h1.t t₂) h4).mono fun v s₃ x => x.t (t₁.trans t₂)

theorem TE_bin {l r : Expr} {op : Operator} {pos : Pos} {Q : AV → AHeap → Prop} (h : TE C l ρ H fun a H₁ => TE C r ρ H₁ fun b H₂ => T2 C (binaryOp op) a b H₂ Q) :
    TE C (.BinOp l op r pos) ρ H Q := fun A env s ok R => wpAny_BinOp (T_two ok R h)
theorem TE_cmp {l r : Expr} {op : CmpOp} {pos : Pos} {Q : AV → AHeap → Prop} (hm : behindInMarks op r = false) (h : TE C l ρ H fun a H₁ => TE C r ρ H₁ fun b H₂ => T2 C (compareOp op) a b H₂ Q) :
    TE C (.Compare l [op] [r] pos) ρ H Q := fun A env s ok R => wpAny_Compare1 (T_two ok R h) hm
/-- a comparison as a test, its answer a bool -/
theorem TT_cmp {l r : Expr} {op : CmpOp} {pos : Pos} {Q : Bool → AHeap → Prop} (hm : behindInMarks op r = false)
    (h : TE C l ρ H fun a H₁ => TE C r ρ H₁ fun b H₂ => T2 C (compareOp op) a b H₂ fun v H₃ => ∃ b, v = .bool b ∧ Q b H₃) :
    TT C (.Compare l [op] [r] pos) ρ H Q := fun A env s ok R => by
  refine wpAny_isTrue_Compare1 ((T_two ok R h).mono fun a s₁ x => W.mono x fun b s₂ y => W.mono y fun c s₃ z => ?_) hm
  obtain ⟨t, v, H', h1, h2, b, rfl, h3⟩ := z
  obtain rfl := h1
  exact wpAny_truthy_bool ⟨t, H', h2, h3⟩
theorem TT_not {x : Expr} {pos : Pos} {Q : Bool → AHeap → Prop} (h : TT C x ρ H fun b H' => Q (!b) H') : TT C (.UnaryOp .Not x pos) ρ H Q := fun A env s ok R =>
  wpAny_isTrue_Not ((h A env s ok R).mono fun _ _ ⟨t, H', h1, h2⟩ => ⟨t, H', h1, h2⟩)
theorem TT_val {e : Expr} {Q : Bool → AHeap → Prop} (he : ∀ (env : Env) whole, isTrue e env whole = (do let v ← whole; standAt e.pos; holding [v] (truthy v))) (h : TE C e ρ H fun v H₁ => TB C v H₁ Q) : TT C e ρ H Q := fun A env s ok R =>
  wpAny_isTrue_value ((h A env s ok R).mono fun v s₁ ⟨t, a, H₁, h1, h2, h3⟩ => (h3 A env ρ s₁ v ok h2 h1).mono fun b s₂ ⟨t₂, r⟩ => ⟨t.trans t₂, r⟩) (he env _)
/-- x and y and .. -/
def TAll (C : Cx) (op : BoolOp) (es : List Expr) (ρ : Loc) (H : AHeap) (Q : Bool → AHeap → Prop) : Prop :=
  ∀ A env s, AOk C A env → SRep C env ρ H s → W C A (allTrue op es env) (fun b s' => TExt s.heap s'.heap ∧ ∃ H', SRep C env ρ H' s' ∧ Q b H') s
theorem TT_bool {op : BoolOp} {es : List Expr} {pos : Pos} {Q : Bool → AHeap → Prop} (h : TAll C op es ρ H Q) : TT C (.BoolOp op es pos) ρ H Q := fun A env s ok R =>
  wpAny_isTrue_BoolOp (h A env s ok R)
theorem TAll_nil {op : BoolOp} {Q : Bool → AHeap → Prop} (h : Q (op == .And) H) : TAll C op [] ρ H Q := fun A env s ok R => by
  show W C A (pure (op == .And)) _ s
  exact wpAny_pure ⟨TExt.refl _, H, R, h⟩
theorem TAll_and {x : Expr} {r : List Expr} {Q : Bool → AHeap → Prop} (h : TT C x ρ H fun b H₁ => if b = true then TAll C .And r ρ H₁ Q else Q false H₁) : TAll C .And (x :: r) ρ H Q := fun A env s ok R => by
  refine wpAny_allTrue_And_cons ((h A env s ok R).mono fun b s₁ ⟨t, H₁, h1, h2⟩ => ?_)
  cases b with
  | true => exact (h2 A env s₁ ok h1).mono fun b s₂ ⟨t₂, r⟩ => ⟨t.trans t₂, r⟩
  | false => exact ⟨t, H₁, h1, h2⟩
theorem TAll_or {x : Expr} {r : List Expr} {Q : Bool → AHeap → Prop} (h : TT C x ρ H fun b H₁ => if b = true then Q true H₁ else TAll C .Or r ρ H₁ Q) : TAll C .Or (x :: r) ρ H Q := fun A env s ok R => by
  refine wpAny_allTrue_Or_cons ((h A env s ok R).mono fun b s₁ ⟨t, H₁, h1, h2⟩ => ?_)
  cases b with
  | true => exact ⟨t, H₁, h1, h2⟩
  | false => exact (h2 A env s₁ ok h1).mono fun b s₂ ⟨t₂, r⟩ => ⟨t.trans t₂, r⟩
theorem TE_if {c x y : Expr} {pos : Pos} {Q : AV → AHeap → Prop} (h : TT C c ρ H fun b H₁ => if b = true then TE C x ρ H₁ Q else TE C y ρ H₁ Q) : TE C (.IfExp c x y pos) ρ H Q := fun A env s ok R =>
  wpAny_IfExp ((h A env s ok R).mono fun b s₁ ⟨t, H₁, h1, h2⟩ => by
    cases b with
    | true => exact (h2 A env s₁ ok h1).mono fun v s₂ z => z.t t
    | false => exact (h2 A env s₁ ok h1).mono fun v s₂ z => z.t t)

/-! argument lists, displays -/
theorem TEs_nil {Q : List AV → AHeap → Prop} (h : Q [] H) : TEs C [] ρ H Q := fun A env s pos ok R => Calls.spliced_nil ⟨TExt.refl _, [], H, trivial, R, h⟩
theorem TEs_cons {e : Expr} {es : List Expr} {Q : List AV → AHeap → Prop} (he : ∀ env : Env, starEach (e :: es) env = (false, eval e env) :: starEach es env)
    (h : TE C e ρ H fun a H₁ => TEs C es ρ H₁ fun as H₂ => Q (a :: as) H₂) : TEs C (e :: es) ρ H Q := fun A env s pos ok R => by
  rw [he]
  refine Calls.spliced_cons ((h A env s ok R).mono fun v s₁ ⟨t, a, H₁, h1, h2, h3⟩ => ?_)
  exact (h3 A env s₁ pos ok h2).mono fun vs s₂ ⟨t₂, as, H₂, h4, h5, h6⟩ => ⟨t.trans t₂, a :: as, H₂, ⟨h1.t t₂, h4⟩, h5, h6⟩
end
end Mine
end
section
open PySem PySem.W PyProof.Rows
set_option maxRecDepth 10000
set_option autoImplicit false
set_option linter.unusedVariables false
namespace Mine
section
variable {C : Cx} {A : Around} {env : Env} {ρ : Loc} {H : AHeap} {s : Shared}

theorem SRep.alloc {o : Obj} {ao : AObj} {tk : Nat} (r : SRep C env ρ H s) (y : C.hB s.heap.objs.size = none → ORep C (s.heap.push o) s.heap.objs.size ao) :
    SRep C env ρ (H.upd s.heap.objs.size ao) { s with heap := s.heap.push o, toks := tk } :=
  SRep.add (s := { s with heap := s.heap.push o, toks := tk }) (r.to (Ext.push _ _)) (y (r.fresh (Nat.le_refl _))) (Nat.ne_of_gt r.ltL)

theorem TE_tuple {es : List Expr} {k : Nat} {pos : Pos} {Q : AV → AHeap → Prop} (h : TEs C es ρ H fun as H₁ => ∃ bs : List BV, as = bs.map .b ∧ bs.length ≤ sizeLine ∧ Q (.tup bs) H₁) : TE C (.Tuple es k pos) ρ H Q := fun A env s ok R => by
  refine Tuple_ ((h A env s pos ok R).mono fun vs s₁ ⟨t, as, H₁, h1, h2, bs, e, hl, hq⟩ => ?_)
  subst e
  have hb : BReps bs vs := .ofV h1
  refine wpAny_newTuple ?_ (by show vs.length ≤ sizeLine; rw [← hb.length]; exact hl)
  exact ⟨t.trans (Ext.push _ _).t, .tup bs, H₁, ⟨_, vs.toArray, 0, rfl, Heap.get?_push_size _ rfl, by simpa using hb⟩, h2.to (Ext.push _ _), hq⟩

theorem TE_list {es : List Expr} {pos : Pos} {Q : AV → AHeap → Prop} (h : TEs C es ρ H fun as H₁ => as.length ≤ sizeLine ∧ ∀ a, H₁ a = none → Q (.ref a) (H₁.upd a (.list as))) : TE C (.List es pos) ρ H Q := fun A env s ok R => by
  refine List_ ((h A env s pos ok R).mono fun vs s₁ ⟨t, as, H₁, h1, h2, hl, hq⟩ => ?_)
  refine wpAny_newList ?_ (by show vs.length ≤ sizeLine; rw [← h1.length]; exact hl)
  refine ⟨t.trans (Ext.push _ _).t, .ref _, _, rfl, h2.alloc (ao := .list as) fun n => ⟨⟨vs.toArray, 0, Heap.get?_push_size _ rfl, ?_⟩, n⟩, hq _ (h2.unheld (Nat.le_refl _))⟩
  simpa using h1.t (Ext.push _ _).t

/-- what may be called by its name -/
def Callee (C : Cx) : Value → Prop
  | .type _ => True
  | .builtin _ => True
  | .ref a => ∃ o fd, C.gb.get? a = some o ∧ o.data = .func fd ∧ o.cls ≠ .type "frame"
  | _ => False
theorem TE_call {x : Str} {p pos : Pos} {args : List Expr} {fv : Value} {Q : AV → AHeap → Prop} (k : C.Ok) (hk : glOk C.sc x = true) (hv : C.G x = some fv) (hc : Callee C fv)
    (hs : ∀ env : Env, ∃ t r, backTo pos (starEach args env) = (false, t) :: r ∧ r.any (·.1) = false)
    (h : TEs C args ρ H fun as H₁ => TC C fv as H₁ Q) : TE C (.Call (.Name x p) args [] pos) ρ H Q := fun A env s ok R => by
  refine wpAny_Call_NameR (W.mono (TE_global (Q := fun v H' => v = .val fv ∧ H' = H) k hk hv ⟨rfl, rfl⟩ A env s ok R) fun f s₁ ⟨t₁, v, H₁, h1, h2, e1, e2⟩ => ?_)
  subst e1; subst e2
  obtain rfl := h1
  have go : W C A (spliced (backTo pos (starEach args env))) (fun vs s₂ => (ExtK C.gb s₂.heap) ∧ W C A (call f vs) (EndV C env ρ Q s.heap) s₂) s₁ :=
    (h A env s₁ pos ok h2).mono fun vs s₂ ⟨t₂, as, H₂, h4, h5, h6⟩ => ⟨h5.st k, (h6 A env ρ s₂ vs ok h5 h4).mono fun v s₃ z => z.t (t₁.trans t₂)⟩
  obtain ⟨tr, rr, he, hp⟩ := hs env
  rw [he] at go ⊢
  cases f with
  | type T => exact PySem.callWith_type (by simp [hp]) (Calls.evalArgs_plain (W.mono go fun _ _ z => z.2))
  | builtin id => exact Calls.callWith_builtin (by simp [hp]) (Calls.evalArgs_plain (W.mono go fun _ _ z => z.2))
  | ref a =>
    obtain ⟨o, fd, g, d, nf⟩ := hc
    exact Calls.callWith_function (o := o) (fd := fd) (Calls.evalArgs_plain (W.mono go fun _ _ z => ⟨⟨(z.1 _ _ g).exact nf, d⟩, z.2⟩))
  | _ => exact hc.elim

theorem TE_call0 {x : Str} {p pos : Pos} {fv : Value} {Q : AV → AHeap → Prop} (k : C.Ok) (hk : glOk C.sc x = true) (hv : C.G x = some fv) (hc : Callee C fv)
    (h : TC C fv [] H Q) : TE C (.Call (.Name x p) [] [] pos) ρ H Q := fun A env s ok R => by
  refine wpAny_Call_NameR (W.mono (TE_global (Q := fun v H' => v = .val fv ∧ H' = H) k hk hv ⟨rfl, rfl⟩ A env s ok R) fun f s₁ ⟨t₁, v, H₁, h1, h2, e1, e2⟩ => ?_)
  subst e1; subst e2
  obtain rfl := h1
  have go : W C A (call f []) (EndV C env ρ Q s.heap) s₁ := (h A env ρ s₁ [] ok h2 trivial).mono fun v s₃ z => z.t t₁
  show W C A (callWith pos f [] [] []) _ s₁
  cases f with
  | type T => exact PySem.callWith_type rfl (PySem.evalArgs_none go)
  | builtin id => exact Calls.callWith_builtin rfl (PySem.evalArgs_none go)
  | ref a =>
    obtain ⟨o, fd, g, d, nf⟩ := hc
    exact Calls.callWith_function (o := o) (fd := fd) (PySem.evalArgs_none ⟨⟨(h2.st k _ _ g).exact nf, d⟩, go⟩)
  | _ => exact hc.elim

/-- the type of a held object -/
def AObj.ty : AObj → String
  | .list _ | .ro _ => "list"
  | .wset _ | .fset _ | .iset _ | .rset _ | .pset _ => "set"
  | .dd _ | .rdd _ => "collections.defaultdict"
  | .rng _ => "range"
theorem SRep.typed {a : Addr} {o : AObj} (r : SRep C env ρ H s) (e : H a = some o) : s.TypeIs (.ref a) o.ty ∧ ∀ b, Value.ref a = .ref b → ∃ ob, s.heap.get? b = some ob ∧ ob.dict = none := by
  have y := (r.hp a o e).1
  have fin : ∀ ob : Obj, s.heap.get? a = some ob → ob.cls = .type o.ty → ob.dict = none → s.TypeIs (.ref a) o.ty ∧ ∀ b, Value.ref a = .ref b → ∃ ob, s.heap.get? b = some ob ∧ ob.dict = none :=
    fun ob g h1 h2 => ⟨⟨ob, g, h1⟩, fun b q => by cases q; exact ⟨ob, g, h2⟩⟩
  cases o with
  | list xs => obtain ⟨_, _, g, _⟩ := y; exact fin _ g rfl rfl
  | ro xs => obtain ⟨_, _, g, _⟩ := y; exact fin _ g rfl rfl
  | wset S => obtain ⟨_, ⟨_, _, _, g, _⟩, _⟩ := y; exact fin _ g rfl rfl
  | fset S => obtain ⟨_, ⟨_, _, _, g, _⟩, _⟩ := y; exact fin _ g rfl rfl
  | iset S => obtain ⟨_, ⟨_, _, g, _⟩, _⟩ := y; exact fin _ g rfl rfl
  | rset S => obtain ⟨_, ⟨_, _, g, _⟩, _⟩ := y; exact fin _ g rfl rfl
  | pset S => obtain ⟨_, ⟨_, _, _, g, _⟩, _⟩ := y; exact fin _ g rfl rfl
  | dd es => obtain ⟨_, _, g, _⟩ := y; exact fin _ g rfl rfl
  | rdd es => obtain ⟨_, _, g, _⟩ := y; exact fin _ g rfl rfl
  | rng n => obtain ⟨_, _, _, g⟩ := y; exact fin _ g rfl rfl

/-- what a method of a built-in type is -/
structure Meth (T : String) (name : Str) (id : String) : Prop where
  pa : PlainAttrs T
  slot : Slot T name id
  ty : typeOf (.builtin id) = pure (.type "method_descriptor")

theorem TE_meth {o : Expr} {name : Str} {apos pos : Pos} {args : List Expr} {Q : AV → AHeap → Prop}
    (hbase : ∀ env : Env, attributeBase o name env (eval o env) = eval o env)
    (hfew : ∀ env : Env, ((backTo pos (starEach args env)).all (fun x => !x.1) && (backToKw pos (keywordEach [] env)).all (fun x => x.1.isSome)
      && decide (args.length + ([] : List Keyword).length + (if ([] : List Keyword).isEmpty then 0 else 1) < 30)) = true)
    (hline : (apos.endLine == pos.line) = true)
    (hs : ∀ env : Env, (backTo pos (starEach args env) = []) ∨ ∃ t r, backTo pos (starEach args env) = (false, t) :: r ∧ r.any (·.1) = false)
    (h : TE C o ρ H fun v H₁ => ∃ a ob id, v = .ref a ∧ H₁ a = some ob ∧ Meth ob.ty name id ∧ TEs C args ρ H₁ fun as H₂ => TC C (.builtin id) (.ref a :: as) H₂ Q) :
    TE C (.Call (.Attribute o name apos) args [] pos) ρ H Q := fun A env s ok R => by
  have key : W C A (eval o env) (fun ov s₁ => ∃ T id, PlainAttrs T ∧ Slot T name id ∧ typeOf (.builtin id) = pure (.type "method_descriptor") ∧ s₁.TypeIs ov T ∧ (∀ a, ov = .ref a → ∃ ob, s₁.heap.get? a = some ob ∧ ob.dict = none) ∧
      W C A (callWith pos (.builtin id) [ov] (backTo pos (starEach args env)) []) (EndV C env ρ Q s.heap) s₁) s := by
    refine (h A env s ok R).mono fun v s₁ ⟨t₁, av, H₁, h1, h2, a, ob, id, e1, e2, m, h3⟩ => ?_
    subst e1
    obtain rfl := h1
    refine ⟨_, id, m.pa, m.slot, m.ty, (h2.typed e2).1, (h2.typed e2).2, ?_⟩
    have go : W C A (spliced (backTo pos (starEach args env))) (fun vs s₂ => W C A (call (.builtin id) (.ref a :: vs)) (EndV C env ρ Q s.heap) s₂) s₁ :=
      (h3 A env s₁ pos ok h2).mono fun vs s₂ ⟨t₂, as, H₂, h4, h5, h6⟩ => (h6 A env ρ s₂ (.ref a :: vs) ok h5 ⟨rfl, h4⟩).mono fun v s₃ z => z.t (t₁.trans t₂)
    rcases hs env with e | ⟨tr, rr, he, hp⟩
    · rw [e] at go ⊢
      exact Calls.callWith_builtin rfl (PySem.evalArgs_none fun Γ p hΓ => go Γ p hΓ Γ p hΓ)
    · rw [he] at go ⊢
      exact Calls.callWith_builtin (by simp [hp]) (Calls.evalArgs_plain go)
  rw [arm_eval_Call, hbase]
  refine wpAny_bind (W.mono key fun ov s₁ ⟨T, id, pa, slot, hty, hT, hd, hc⟩ => ?_)
  refine wpAny_bind (wpAny_standAt ?_)
  have hform : methodCallForm (args.length + ([] : List Keyword).length) (backTo pos (starEach args env)) (backToKw pos (keywordEach [] env)) = true := hfew env
  have hpos : methodCallPos true o env apos pos = pure pos := by unfold methodCallPos; simp [hline]
  unfold methodCall
  rw [hform]
  refine wpAny_bind (wpAny_holding ?_)
  unfold calleeOf
  rw [if_pos rfl]
  refine getMethod_builtin hT pa slot hty hd ?_
  dsimp only
  rw [hpos]
  exact wpAny_bind (wpAny_pure hc)
end
end Mine
end
section
open PySem PySem.W PyProof.Rows
set_option maxRecDepth 10000
set_option autoImplicit false
set_option linter.unusedVariables false
namespace Mine
theorem ext_of_but {h h' : Heap} (x : Heap.ExtBut h.objs.size h h') : Ext h h' := fun b o e => x b o (Nat.ne_of_lt (Heap.lt_size e)) e

def Loc.upds (ρ : Loc) : List Str → List AV → Loc
  | x :: xs, v :: vs => Loc.upds (ρ.upd x v) xs vs
  | _, _ => ρ
section
variable {C : Cx} {A : Around} {env : Env} {ρ : Loc} {H : AHeap} {s : Shared}

/-- stores under names, in order -/
inductive Binds (env : Env) : List (Value → Sem Unit) → List Str → Prop
  | nil : Binds env [] []
  | name {t : Value → Sem Unit} {ts : List (Value → Sem Unit)} {x : Str} {xs : List Str} (h : t = (fun v => bindName env x v) ∨ ∃ pos, t = fun v => (do standAt pos; bindName env x v)) (r : Binds env ts xs) : Binds env (t :: ts) (x :: xs)
theorem assign_in_order : ∀ {ts : List (Value → Sem Unit)} {xs : List Str} (b : Binds env ts xs) {ρ : Loc} {s : Shared} {vs : List AV} {cs : List Value} {Q : Unit → Shared → Prop}, SRep C env ρ H s → (∀ x ∈ xs, stOk C x = true) → xs.length = vs.length → VReps s.heap vs cs →
    (∀ s', SRep C env (ρ.upds xs vs) H s' → TExt s.heap s'.heap → Q () s') → W C A (assignInOrder ts cs) Q s := by
  intro ts xs b
  induction b with
  | nil =>
    intro ρ s vs cs Q R _ hl hv h
    obtain rfl : vs = [] := List.eq_nil_of_length_eq_zero hl.symm
    cases cs with
    | nil => exact wpAny_assignInOrder_none (h s R (TExt.refl _))
    | cons _ _ => exact hv.elim
  | @name t ts x xs ht _ ih =>
    intro ρ s vs cs Q R hk hl hv h
    match vs, cs, hl, hv with
    | v :: vs, c :: cs, hl, hv =>
      refine wpAny_assignInOrder_more ?_
      have go : W C A (bindName env x c) (fun _ s₁ => W C A (assignInOrder ts cs) Q s₁) s := R.store (hk x (by simp)) hv.1 fun s₁ R₁ t₁ =>
        ih R₁ (fun y hy => hk y (by simp [hy])) (by simpa using hl) (hv.2.t t₁) fun s' R' t' => h s' R' (t₁.trans t')
      rcases ht with rfl | ⟨pos, rfl⟩
      · exact go
      · exact wpAny_bind (wpAny_standAt go)

/-- a for's or an assignment's target -/
def TA (C : Cx) (t : Expr) (v : AV) (ρ : Loc) (H : AHeap) (Q : Loc → Prop) : Prop :=
  ∀ A env s c, AOk C A env → SRep C env ρ H s → VRep s.heap v c → W C A (assign t env c) (fun _ s' => ∃ ρ', SRep C env ρ' H s' ∧ TExt s.heap s'.heap ∧ Q ρ') s
theorem TA_name {x : Str} {pos : Pos} {v : AV} {Q : Loc → Prop} (hk : stOk C x = true) (h : Q (ρ.upd x v)) : TA C (.Name x pos) v ρ H Q := fun A env s c ok R hv =>
  wpAny_bind (wpAny_standAt (R.store hk hv fun s' R' t => ⟨_, R', t, h⟩))
theorem TA_tuple {es : List Expr} {k : Nat} {pos : Pos} {bs : List BV} {xs : List Str} {Q : Loc → Prop} (hb : ∀ env : Env, Binds env ((assignEach es env).map (·.2)) xs) (hst : ∀ env : Env, (assignEach es env).findIdx? (·.1) = none)
    (hk : ∀ x ∈ xs, stOk C x = true) (hl : xs.length = bs.length) (hn : es.length = xs.length) (hlen : ∀ env : Env, (assignEach es env).length = es.length) (h : Q (ρ.upds xs (bs.map .b))) : TA C (.Tuple es k pos) (.tup bs) ρ H Q := fun A env s c ok R hv => by
  obtain ⟨a, vs, n, rfl, g, hr⟩ := hv
  refine wpAny_assign_Tuple ok.handled ⟨_, g, rfl, n, rfl⟩ ((hlen env).trans (hn.trans (hl.trans (hr.length.trans (by simp))))) (hst env) fun h' hh => ?_
  have e := ext_of_but hh
  refine assign_in_order (hb env) (R.to (tk := s.toks) e) hk (hl.trans (by simp)) (hr.toV) fun s' R' t => ⟨_, R', e.t.trans t, h⟩

theorem TSs_nil {Q : AFlow → Loc → AHeap → Prop} (h : Q .next ρ H) : TSs C [] ρ H Q := fun A env s ok R => wpAny_execs_nil ⟨.next, ρ, H, rfl, R, h⟩
theorem TSs_cons {st : Stmt} {r : List Stmt} {Q : AFlow → Loc → AHeap → Prop} (h : TS C st ρ H fun f ρ₁ H₁ => match f with | .next => TSs C r ρ₁ H₁ Q | f => Q f ρ₁ H₁) : TSs C (st :: r) ρ H Q := fun A env s ok R => by
  refine wpAny_execs_cons ((h A env s ok R).mono fun f s₁ ⟨af, ρ₁, H₁, h1, h2, h3⟩ => ?_)
  cases af with
  | next => obtain rfl := h1; exact h3 A env s₁ ok h2
  | brk => obtain rfl := h1; exact ⟨.brk, ρ₁, H₁, rfl, h2, h3⟩
  | cont => obtain rfl := h1; exact ⟨.cont, ρ₁, H₁, rfl, h2, h3⟩
  | ret v => obtain ⟨c, rfl, h4⟩ := h1; exact ⟨.ret v, ρ₁, H₁, ⟨c, rfl, h4⟩, h2, h3⟩
theorem TS.mono {st : Stmt} {Q Q' : AFlow → Loc → AHeap → Prop} (x : TS C st ρ H Q) (h : ∀ f ρ H, Q f ρ H → Q' f ρ H) : TS C st ρ H Q' := fun A env s ok R =>
  (x A env s ok R).mono fun _ _ ⟨af, ρ₁, H₁, h1, h2, h3⟩ => ⟨af, ρ₁, H₁, h1, h2, h _ _ _ h3⟩
theorem TSs.mono {st : List Stmt} {Q Q' : AFlow → Loc → AHeap → Prop} (x : TSs C st ρ H Q) (h : ∀ f ρ H, Q f ρ H → Q' f ρ H) : TSs C st ρ H Q' := fun A env s ok R =>
  (x A env s ok R).mono fun _ _ ⟨af, ρ₁, H₁, h1, h2, h3⟩ => ⟨af, ρ₁, H₁, h1, h2, h _ _ _ h3⟩

theorem TS_assign {x : Str} {p' pos : Pos} {value : Expr} {Q : AFlow → Loc → AHeap → Prop} (hs : ∀ env : Env, swapsWith value (some (.Name x p')) pos.line env = pure false) (hk : stOk C x = true)
    (h : TE C value ρ H fun v H₁ => Q .next (ρ.upd x v) H₁) : TS C (.Assign [.Name x p'] value pos) ρ H Q := fun A env s ok R => by
  rw [exec_Assign_Name env x p' value pos (hs env)]
  refine wpAny_bind (wpAny_standAt (wpAny_bind ((h A env s ok R).mono fun v s₁ ⟨t, av, H₁, h1, h2, h3⟩ => wpAny_bind (wpAny_standAt (wpAny_bind ?_)))))
  exact h2.store hk h1 fun s' R' t' => wpAny_pure ⟨.next, _, _, rfl, R', h3⟩
/-- x, y, .. = value, stored in order -/
theorem TS_assignT {es : List Expr} {k : Nat} {p' pos : Pos} {value : Expr} {Q : AFlow → Loc → AHeap → Prop} (hs : ∀ env : Env, swapsWithSole [.Tuple es k p'] value pos.line env = pure false)
    (hw : ∀ env : Env, env.scope = C.sc → swappedStores [.Tuple es k p'] value env = pure none)
    (h : TE C value ρ H fun v H₁ => TA C (.Tuple es k p') v ρ H₁ fun ρ₁ => Q .next ρ₁ H₁) : TS C (.Assign [.Tuple es k p'] value pos) ρ H Q := fun A env s ok R => by
  refine wpAny_Assign_stores ((h A env s ok R).mono fun v s₁ ⟨t, av, H₁, h1, h2, h3⟩ => ?_) (hs env) (hw env R.fr.sc)
  show W C A (assign (.Tuple es k p') env v) _ s₁
  exact (h3 A env s₁ v ok h2 h1).mono fun _ s' ⟨ρ', R', _, q⟩ => ⟨.next, ρ', H₁, rfl, R', q⟩
/-- x, y = a, b where the machine stores the other way round -/
theorem TS_assignS {es : List Expr} {k : Nat} {p' pos : Pos} {value : Expr} {xs : List Str} {Q : AFlow → Loc → AHeap → Prop} (hs : ∀ env : Env, swapsWithSole [.Tuple es k p'] value pos.line env = pure false)
    (hw : ∀ env : Env, env.scope = C.sc → swappedStores [.Tuple es k p'] value env = pure (some xs)) (hk : ∀ x ∈ xs, stOk C x = true)
    (h : TE C value ρ H fun v H₁ => ∃ bs : List BV, v = .tup bs ∧ xs.length = bs.length ∧ Q .next (ρ.upds xs.reverse (bs.map .b).reverse) H₁) : TS C (.Assign [.Tuple es k p'] value pos) ρ H Q := fun A env s ok R => by
  rw [arm_exec_Assign]
  refine wpAny_bind (wpAny_standAt ?_)
  rw [hs env]
  refine wpAny_bind (wpAny_pure ?_)
  rw [if_neg (by decide)]
  refine wpAny_bind ((h A env s ok R).mono fun v s₁ ⟨t, av, H₁, h1, h2, bs, e, hl, h3⟩ => ?_)
  subst e
  rw [hw env R.fr.sc]
  refine wpAny_bind (wpAny_pure ?_)
  unfold assignStores
  dsimp only
  refine wpAny_bind (wpAny_rule ?_)
  obtain ⟨a, vs, n, rfl, g, hr⟩ := h1
  have hsz : xs.length = vs.size := hl.trans (hr.length.trans (by simp))
  rw [hsz]
  refine wpAny_bind (wpAny_unpackItems_tuple ok.handled ⟨_, g, rfl, n, rfl⟩ fun h' hh => ?_)
  have e := ext_of_but hh
  refine wpAny_bind (assign_in_order (xs := xs.reverse) (vs := (bs.map AV.b).reverse) ?_ (h2.to (tk := s₁.toks) e) (fun x hx => hk x (List.mem_reverse.mp hx)) (by simpa using hl) hr.toV.reverse fun s' R' t => wpAny_pure ⟨.next, _, _, rfl, R', h3⟩)
  have bn : ∀ l : List Str, Binds env (l.map fun n => bindName env n) l := fun l => by
    induction l with
    | nil => exact .nil
    | cons x l ih => exact .name (.inl rfl) ih
  exact bn _

theorem TS_expr {e : Expr} {pos : Pos} {Q : AFlow → Loc → AHeap → Prop} (hs : ∀ env : Env, swapsWith e none pos.line env = pure false)
    (h : TE C e ρ H fun v H₁ => (v = .none ∨ (∃ b, v = .bool b) ∨ ∃ i, v = .int i) ∧ Q .next ρ H₁) : TS C (.Expr e pos) ρ H Q := fun A env s ok R => by
  refine wpAny_Expr ((h A env s ok R).mono fun v s₁ ⟨t, av, H₁, h1, h2, h3, h4⟩ => ?_) (by unfold interactive; rw [R.fr.kindF]; rfl) (hs env)
  have fin : EndF C env Q .next s₁ := ⟨.next, ρ, H₁, rfl, h2, h4⟩
  rcases h3 with rfl | ⟨b, rfl⟩ | ⟨i, rfl⟩
  · obtain rfl := h1; exact fin
  · obtain rfl := h1; exact fin
  · obtain ⟨tk, rfl⟩ := h1; exact fin
theorem TS_if {c : Expr} {b o : List Stmt} {pos : Pos} {Q : AFlow → Loc → AHeap → Prop} (h : TT C c ρ H fun t H₁ => if t = true then TSs C b ρ H₁ Q else TSs C o ρ H₁ Q) : TS C (.If c b o pos) ρ H Q := fun A env s ok R =>
  wpAny_If ((h A env s ok R).mono fun t s₁ ⟨_, H₁, h1, h2⟩ => by
    cases t with
    | true => exact h2 A env s₁ ok h1
    | false => exact h2 A env s₁ ok h1)
theorem TS_ret {e : Expr} {pos : Pos} {Q : AFlow → Loc → AHeap → Prop} (h : TE C e ρ H fun v H₁ => Q (.ret v) ρ H₁) : TS C (.Return (some e) pos) ρ H Q := fun A env s ok R =>
  wpAny_Return_some ((h A env s ok R).mono fun v s₁ ⟨_, av, H₁, h1, h2, h3⟩ => ⟨.ret av, ρ, H₁, ⟨v, rfl, h1⟩, h2, h3⟩)
theorem TS_break {pos : Pos} {Q : AFlow → Loc → AHeap → Prop} (h : Q .brk ρ H) : TS C (.Break pos) ρ H Q := fun A env s ok R => wpAny_Break ⟨.brk, ρ, H, rfl, R, h⟩

theorem codeAny_monoW {c : Code} {R R' : Result → Shared → Prop} (x : codeAny (model C.prog C.w) A c R s) (h : ∀ r s', R r s' → R' r s') : codeAny (model C.prog C.w) A c R' s := codeAny_mono x h

/-- a while, by what holds ahead of each look and a number that falls -/
theorem TS_while {c : Expr} {b o : List Stmt} {pos : Pos} {Q : AFlow → Loc → AHeap → Prop} (I : Nat → Loc → AHeap → Prop) (n : Nat) (h0 : I n ρ H)
    (turn : ∀ k ρ₁ H₁, I k ρ₁ H₁ → TT C c ρ₁ H₁ fun t H₂ => if t = true then TSs C b ρ₁ H₂ (fun f ρ₂ H₃ => match f with
        | .next | .cont => ∃ m, m < k ∧ I m ρ₂ H₃
        | .brk => Q .next ρ₂ H₃
        | .ret v => Q (.ret v) ρ₂ H₃) else TSs C o ρ₁ H₂ Q) : TS C (.While c b o pos) ρ H Q := fun A env s ok R => by
  refine wpAny_While ?_
  refine codeAny_whileLoop (fun k s' => ∃ ρ₁ H₁, SRep C env ρ₁ H₁ s' ∧ I k ρ₁ H₁) (fun k s' ⟨ρ₁, H₁, R₁, hI⟩ => ?_) n ⟨ρ, H, R, h0⟩
  refine wpAny_mono (turn k ρ₁ H₁ hI A env s' ok R₁) (fun t s₂ ⟨_, H₂, R₂, h2⟩ => ?_) fun _ _ e => e.elim
  cases t with
  | true =>
    simp only [if_true] at h2 ⊢
    refine wpAny_mono (h2 A env s₂ ok R₂) (fun f s₃ ⟨af, ρ₃, H₃, h4, R₃, h5⟩ => ?_) fun _ _ e => e.elim
    cases af with
    | next => obtain rfl := h4; obtain ⟨m, hm, hI'⟩ := h5; exact ⟨m, hm, ρ₃, H₃, R₃, hI'⟩
    | cont => obtain rfl := h4; obtain ⟨m, hm, hI'⟩ := h5; exact ⟨m, hm, ρ₃, H₃, R₃, hI'⟩
    | brk => obtain rfl := h4; exact ⟨.next, ρ₃, H₃, rfl, R₃, h5⟩
    | ret v => obtain ⟨c', rfl, h6⟩ := h4; exact ⟨.ret v, ρ₃, H₃, ⟨c', rfl, h6⟩, R₃, h5⟩
  | false =>
    simp only [Bool.false_eq_true, if_false] at h2 ⊢
    exact wpAny_mono (h2 A env s₂ ok R₂) (fun f s₃ h => h) fun _ _ e => e.elim

/-! an object that is no one's of the call, held as it is -/
def Cx.hold (C : Cx) (a : Addr) (o : Obj) : Cx := { C with hB := fun b => match C.hB b with | some x => some x | none => if b = a then some o else none }
theorem Cx.Ok.hold {C : Cx} (k : C.Ok) (a : Addr) (o : Obj) : (C.hold a o).Ok := ⟨fun b o' e => let ⟨o2, h, l⟩ := k.base b o' e; ⟨o2, by show (match C.hB b with | some x => some x | none => _) = _; rw [h], l⟩, k.glob, k.nolim⟩
theorem Cx.hold_old {C : Cx} {a b : Addr} {o x : Obj} (h : C.hB b = some x) : (C.hold a o).hB b = some x := by show (match C.hB b with | some x => some x | none => _) = _; rw [h]
theorem AOk.hold {C : Cx} {A : Around} {env : Env} (ok : AOk C A env) (a : Addr) (o : Obj) : AOk (C.hold a o) A env := ok.more rfl rfl fun _ _ => Cx.hold_old
theorem Cx.hold_none {C : Cx} {a b : Addr} {o : Obj} (h : (C.hold a o).hB b = none) : C.hB b = none := by
  cases e : C.hB b with
  | none => rfl
  | some x => rw [Cx.hold_old e] at h; cases h
theorem Cx.hold_at {C : Cx} {a : Addr} {o : Obj} (h : C.hB a = none) : (C.hold a o).hB a = some o := by show (match C.hB a with | some x => some x | none => _) = _; rw [h]; simp
theorem Cx.hold_ne {C : Cx} {a b : Addr} {o : Obj} (h : b ≠ a) : (C.hold a o).hB b = C.hB b := by
  show (match C.hB b with | some x => some x | none => _) = _
  cases C.hB b <;> simp [h]
/-- hold it -/
theorem SRep.hold {a : Addr} {o : Obj} (R : SRep C env ρ H s) (g : s.heap.get? a = some o) (hn : H a = none) (hL : a ≠ env.locals) (hc : ∀ p ∈ env.cells, p.2 ≠ a) : SRep (C.hold a o) env ρ H s where
  keep := fun b x e => by
    by_cases hb : C.hB b = none
    · by_cases q : b = a
      · subst q; rw [Cx.hold_at hb] at e; cases e; exact .of g
      · rw [Cx.hold_ne q, hb] at e; cases e
    · obtain ⟨y, hy⟩ := Option.ne_none_iff_exists'.mp hb
      rw [Cx.hold_old hy] at e; cases e; exact R.keep b _ hy
  fr := ⟨R.fr.sc, R.fr.kind, R.fr.gl, R.fr.bl, R.fr.low, R.fr.ns, R.fr.cells, R.fr.apart, (Cx.hold_ne (Ne.symm hL)).trans R.fr.newL, fun hro p hp => (Cx.hold_ne (hc p hp)).trans (R.fr.newC hro p hp), R.fr.cin, R.fr.frm⟩
  sep := R.sep
  hp := fun b x e => by
    have y := R.hp b x e
    have q : b ≠ a := by rintro rfl; rw [hn] at e; cases e
    refine ⟨y.1, ?_⟩
    have p := y.2
    unfold Place at p ⊢
    cases hf : x.fz with
    | true => rw [hf] at p; obtain ⟨ob, h1, h2⟩ := p; exact ⟨ob, Cx.hold_old h1, h2⟩
    | false => rw [hf] at p; exact (Cx.hold_ne q).trans p
  gens := R.gens
  os := R.os
/-- an object that is no list, no set, no defaultdict and no tuple -/
structure Odd (o : Obj) : Prop where
  c : ∃ vs, o.data = .fields vs
  m : ¬ Main o
  t : ∀ vs n, o ≠ tupObj vs n
  f : o.cls ≠ .type "frame"
theorem Odd.of {o : Obj} {T : String} {vs : Array Value} (h : o.cls = .type T) (hd : o.data = .fields vs) (h1 : T ≠ "list" := by decide) (h2 : T ≠ "set" := by decide) (h3 : T ≠ "collections.defaultdict" := by decide) (h4 : T ≠ "tuple" := by decide) (h5 : T ≠ "frame" := by decide) : Odd o :=
  ⟨⟨vs, hd⟩, fun e => by
    rcases e with e | e | e
    · rw [h] at e; exact h1 (Value.type.inj e)
    · rw [h] at e; exact h2 (Value.type.inj e)
    · rw [h] at e; exact h3 (Value.type.inj e), fun _ _ e => h4 (by rw [e] at h; exact (Value.type.inj h).symm), fun e => h5 (by rw [h] at e; exact Value.type.inj e)⟩
theorem Cx.hold_odd {C : Cx} {a b : Addr} {o x : Obj} (h : (C.hold a o).hB b = some x) (hx : x ≠ o) : C.hB b = some x := by
  cases q : C.hB b with
  | some z => rw [Cx.hold_old q] at h; exact h
  | none =>
    by_cases qa : b = a
    · subst qa; rw [Cx.hold_at q] at h; exact absurd (Option.some.inj h).symm hx
    · rw [Cx.hold_ne qa, q] at h; cases h
/-- and let it go -/
theorem SRep.drop {a : Addr} {o : Obj} (R : SRep (C.hold a o) env ρ H s) (ho : Odd o) : SRep C env ρ H s where
  keep := fun b x e => R.keep b x (Cx.hold_old e)
  fr := ⟨R.fr.sc, R.fr.kind, R.fr.gl, R.fr.bl, R.fr.low, R.fr.ns, R.fr.cells, R.fr.apart, Cx.hold_none R.fr.newL, fun hro p hp => Cx.hold_none (R.fr.newC hro p hp), R.fr.cin, R.fr.frm⟩
  sep := R.sep
  hp := fun b x e => by
    have y := R.hp b x e
    refine ⟨y.1, ?_⟩
    have p := y.2
    unfold Place at p ⊢
    cases hf : x.fz with
    | true => rw [hf] at p; obtain ⟨ob, h1, h2⟩ := p; exact ⟨ob, Cx.hold_odd h1 fun q => ho.m (q ▸ h2), h2⟩
    | false => rw [hf] at p; exact Cx.hold_none p
  gens := R.gens
  os := R.os
end
end Mine
end
section
open PySem PySem.W PyProof.Rows
set_option maxRecDepth 10000
set_option autoImplicit false
set_option linter.unusedVariables false
namespace Mine
section
variable {C : Cx} {A : Around} {env : Env} {ρ : Loc} {H : AHeap} {s : Shared}

/-- an object that is no one's is changed -/
theorem SRep.other {a : Addr} {ob : Obj} {h' : Heap} {tk : Nat} (R : SRep C env ρ H s) (g : s.heap.get? a = some ob) (n : C.hB a = none) (hn : H a = none) (hL : a ≠ env.locals) (hc : ∀ p ∈ env.cells, p.2 ≠ a)
    (ht : ∀ vs n, ob ≠ tupObj vs n) (hs : Heap.ExtBut a s.heap h') : SRep C env ρ H { s with heap := h', toks := tk } := by
  have t : TExt s.heap h' := fun b vs n e => hs b _ (by rintro rfl; rw [g] at e; cases e; exact ht _ _ rfl) e
  have hk : ∀ b, b ≠ a → ∀ o, s.heap.get? b = some o → h'.get? b = some o := fun b hb o e => hs b o hb e
  refine ⟨fun b o e => (R.keep b o e).step (hk b (fun q => by rw [q, n] at e; cases e)), ?_, R.sep, fun b o e => ?_, R.gens, R.os⟩
  · obtain ⟨m, hn, hm⟩ := R.fr.ns
    exact ⟨R.fr.sc, R.fr.kind, R.fr.gl, R.fr.bl, R.fr.low, ⟨m, hn.at' (hk _ (Ne.symm hL)), fun y v h1 h2 => let ⟨c, h3, h4⟩ := hm y v h1 h2; ⟨c, h3, h4.t t⟩⟩,
      fun y hy => let ⟨ca, co, h1, ⟨o, h2, h2'⟩, h3⟩ := R.fr.cells y hy; ⟨ca, co, h1, ⟨o, hk _ (hc _ (mem_of_lookup h1)) _ h2, h2'⟩, fun v hv => let ⟨c, h4, h5⟩ := h3 v hv; ⟨c, h4, h5.t t⟩⟩, R.fr.apart, R.fr.newL, R.fr.newC, fun p hp => (let ⟨v, o, h1, h2⟩ := R.fr.cin p hp; ⟨v, o, hk _ (hc p hp) _ h1, h2⟩), fun hst => let ⟨q1, o, q2, q3⟩ := R.fr.frm hst; ⟨q1, o, hk _ (Ne.symm hL) _ q2, q3⟩⟩
  · have hb : b ≠ a := by rintro rfl; rw [hn] at e; cases e
    exact (R.hp b o e).t t (hk b hb)

theorem TExt.other {a : Addr} {ob : Obj} {h h' : Heap} (g : h.get? a = some ob) (ht : ∀ vs n, ob ≠ tupObj vs n) (hs : Heap.ExtBut a h h') : TExt h h' :=
  fun b vs n e => hs b _ (by rintro rfl; rw [g] at e; cases e; exact ht _ _ rfl) e

/-- all but the object at I stand -/
def ExtBK (I : Addr) (h h' : Heap) : Prop := ∀ b o, b ≠ I → h.get? b = some o → Kept h' b o
theorem TExt.otherK {a : Addr} {ob : Obj} {h h' : Heap} (g : h.get? a = some ob) (ht : ∀ vs n, ob ≠ tupObj vs n) (hs : ExtBK a h h') : TExt h h' :=
  fun b vs n e => (hs b _ (by rintro rfl; rw [g] at e; cases e; exact ht _ _ rfl) e).exact (by intro q; exact absurd (Value.type.inj q) (by decide))
/-- an address that is no one's -/
structure Free (C : Cx) (env : Env) (H : AHeap) (a : Addr) : Prop where
  old : C.hB a = none
  un : H a = none
  loc : a ≠ env.locals
  cell : ∀ p ∈ env.cells, p.2 ≠ a
theorem SRep.free {a : Addr} {o : Obj} (R : SRep C env ρ H s) (g : s.heap.get? a = some o) (F : Free C env H a) : SRep (C.hold a o) env ρ H s := R.hold g F.un F.loc F.cell
theorem SRep.back {a : Addr} {o : Obj} (R : SRep (C.hold a o) env ρ H s) (ho : Odd o) (n : C.hB a = none) : SRep C env ρ H s ∧ s.heap.get? a = some o ∧ Free C env H a := by
  have at' := Cx.hold_at (o := o) n
  refine ⟨R.drop ho, (R.keep _ _ at').exact ho.f, n, ?_, fun q => ?_, fun p hp q => ?_⟩
  · cases e : H a with
    | none => rfl
    | some x =>
      have p := (R.hp a x e).2
      unfold Place at p
      cases hf : x.fz with
      | true => rw [hf] at p; obtain ⟨ob, h1, h2⟩ := p; rw [at'] at h1; cases h1; exact absurd h2 ho.m
      | false => rw [hf] at p; have p' : (C.hold a o).hB a = none := p; rw [at'] at p'; cases p'
  · have := R.fr.newL; rw [← q, at'] at this; cases this
  · obtain ⟨v, o', h1, h2⟩ := R.fr.cin p hp
    have h3 := (R.keep _ _ at').exact ho.f
    rw [q, h3] at h1; cases h1
    obtain ⟨vs, hd⟩ := ho.c
    rw [hd] at h2; cases h2
theorem SRep.freshAt {a : Addr} (R : SRep C env ρ H s) (h : s.heap.objs.size ≤ a) : Free C env H a := by
  refine ⟨R.fresh h, R.unheld h, fun q => absurd R.ltL (by rw [← q]; exact Nat.not_lt.mpr h), fun p hp q => ?_⟩
  obtain ⟨v, o, h1, _⟩ := R.fr.cin p hp
  exact absurd (Heap.lt_size h1) (by rw [q]; exact Nat.not_lt.mpr h)

/-- what one look at an iterator gives: the next of xs, or the end -/
def NextOf (C : Cx) (I : Addr) (xs : List AV) (K : Nat → Obj → Prop) (src : AHeap → Prop) : Prop :=
  (∀ i ob, K i ob → Odd ob) ∧ (∀ i ob, K i ob → ∃ T, ob.cls = .type T ∧ T ≠ "enumerate" ∧ T ≠ "zip" ∧ T ≠ "dict_itemiterator" ∧ T ≠ "dict_reverseitemiterator" ∧ T ≠ "odict_iterator" ∧ T ≠ "itertools.zip_longest" ∧ T ≠ "itertools.pairwise") ∧
  ∀ A env ρ H s i ob, AIn 5 A → SRep C env ρ H s → src H → Free C env H I → s.heap.get? I = some ob → K i ob → i ≤ xs.length →
    W C A (pyNext (.ref I)) (fun r s' => TExt s.heap s'.heap ∧ SRep C env ρ H s' ∧ match r with
      | none => i = xs.length
      | some c => ∃ v ob', xs[i]? = some v ∧ VRep s'.heap v c ∧ s'.heap.get? I = some ob' ∧ K (i + 1) ob') s
/-- the state but for the iterator's own object -/
def Out (I : Addr) (s s' : Shared) : Prop := ∃ h' tk, s' = { s with heap := h', toks := tk } ∧ Heap.ExtBut I s.heap h'
/-- the same of the bare heap -/
structure NextR (P : Program) (w : World) (I : Addr) (xs : List AV) (K : Nat → Obj → Prop) (Src : Heap → Prop) : Prop where
  odd : ∀ i ob, K i ob → Odd ob
  ty : ∀ i ob, K i ob → ∃ T, ob.cls = .type T ∧ T ≠ "enumerate" ∧ T ≠ "zip" ∧ T ≠ "dict_itemiterator" ∧ T ≠ "dict_reverseitemiterator" ∧ T ≠ "odict_iterator" ∧ T ≠ "itertools.zip_longest" ∧ T ≠ "itertools.pairwise"
  self : ∀ (A : Around) (s : Shared) i ob (Q : Value → Shared → Prop), s.heap.get? I = some ob → K i ob → Q (.ref I) s → wpAny (model P w) A (pyIter (.ref I)) Q (fun _ _ => False) s
  next : ∀ (A : Around) (s : Shared) i ob, AIn 5 A → Src s.heap → s.heap.get? I = some ob → K i ob → i ≤ xs.length →
    wpAny (model P w) A (pyNext (.ref I)) (fun r s' => Out I s s' ∧ match r with
      | none => i = xs.length
      | some c => ∃ v ob', xs[i]? = some v ∧ VRep s'.heap v c ∧ s'.heap.get? I = some ob' ∧ K (i + 1) ob') (fun _ _ => False) s
theorem NextR.of {I : Addr} {xs : List AV} {K : Nat → Obj → Prop} {Src : Heap → Prop} {src : AHeap → Prop} (n : NextR C.prog C.w I xs K Src) (h : ∀ env ρ H s, SRep C env ρ H s → src H → Src s.heap) : NextOf C I xs K src :=
  ⟨n.odd, n.ty, fun A env ρ H s i ob ok R hs F g hK hi => W.mono (n.next A s i ob ok (h _ _ _ _ R hs) g hK hi) fun r s' ⟨⟨h', tk, e, hx⟩, hr⟩ => by
    have o := n.odd i ob hK
    have R' : SRep C env ρ H s' := by rw [e]; exact R.other g F.old F.un F.loc F.cell o.t hx
    have t : TExt s.heap s'.heap := by rw [e]; exact TExt.other g o.t hx
    exact ⟨t, R', hr⟩⟩
/-- what the bare heap keeps of an iterable -/
def Raw (C : Cx) (I : Addr) (xs : List AV) (K : Nat → Obj → Prop) (s s' : Shared) : Prop :=
  (∃ h' tk, s' = { s with heap := h', toks := tk } ∧ Ext s.heap h') ∧ s.heap.objs.size ≤ I ∧ ∃ Src, NextR C.prog C.w I xs K Src ∧ ∀ h', ExtBK I s'.heap h' → Src h'
def IterOf (C : Cx) (v : AV) (H : AHeap) (xs : List AV) (src : AHeap → Prop) : Prop :=
  ∀ A env ρ s c, AIn 5 A → SRep C env ρ H s → VRep s.heap v c → W C A (pyIter c) (fun it s' => TExt s.heap s'.heap ∧ SRep C env ρ H s' ∧ ∃ I ob K, it = .ref I ∧ Free C env H I ∧ s'.heap.get? I = some ob ∧ K 0 ob ∧ NextOf C I xs K src ∧ Raw C I xs K s s') s
/-- one of several orders -/
def IterSome (C : Cx) (v : AV) (H : AHeap) (Vals : List AV → Prop) (src : AHeap → Prop) : Prop :=
  ∀ A env ρ s c, AIn 5 A → SRep C env ρ H s → VRep s.heap v c → W C A (pyIter c) (fun it s' => TExt s.heap s'.heap ∧ SRep C env ρ H s' ∧ ∃ I ob K xs, Vals xs ∧ it = .ref I ∧ Free C env H I ∧ s'.heap.get? I = some ob ∧ K 0 ob ∧ NextOf C I xs K src ∧ Raw C I xs K s s') s
theorem IterOf.some {v : AV} {xs : List AV} {src : AHeap → Prop} (h : IterOf C v H xs src) : IterSome C v H (fun ys => ys = xs) src := fun A env ρ s c ok R hv =>
  (h A env ρ s c ok R hv).mono fun it s' ⟨t, R', I, ob, K, h1, h2, h3, h4, h5⟩ => ⟨t, R', I, ob, K, xs, rfl, h1, h2, h3, h4, h5⟩

theorem letGo_no {t : Expr} {I : Addr} {v : Value} {ob : Obj} {T : String} {Q : Unit → Shared → Prop} (g : s.heap.get? I = some ob) (hT : ob.cls = .type T)
    (hn : T ≠ "enumerate" ∧ T ≠ "zip" ∧ T ≠ "dict_itemiterator" ∧ T ≠ "dict_reverseitemiterator" ∧ T ≠ "odict_iterator" ∧ T ≠ "itertools.zip_longest" ∧ T ≠ "itertools.pairwise") (h : Q () s) : W C A (letOwnedTupleGo t (.ref I) v) Q s := by
  have key : ∀ a : Addr, W C A (do
      let o ← load I
      match o.cls, o.data with
      | .type n, .fields vs =>
        if (["enumerate", "zip", "dict_itemiterator", "dict_reverseitemiterator", "odict_iterator", "itertools.zip_longest", "itertools.pairwise"].contains n && vs[0]? == some (rawInt a)) = true then
          (do rule "for.unpacks-the-owned-tuple"; updateField I 0 .none : Sem Unit)
        else pure ()
      | _, _ => pure () : Sem Unit) Q s := fun a => by
    refine wpAny_bind (wpAny_load g ?_)
    rw [hT]
    have hc : ["enumerate", "zip", "dict_itemiterator", "dict_reverseitemiterator", "odict_iterator", "itertools.zip_longest", "itertools.pairwise"].contains T = false := by
      obtain ⟨h1, h2, h3, h4, h5, h6, h7⟩ := hn
      simp [h1, h2, h3, h4, h5, h6, h7]
    split
    · rename_i n vs e1 e2
      cases e1
      rw [hc]
      exact wpAny_pure h
    · exact wpAny_pure h
  unfold letOwnedTupleGo
  split
  · cases v with
    | ref a => exact key a
    | _ => exact wpAny_pure h
  · cases v with
    | ref a => exact key a
    | _ => exact wpAny_pure h
  · exact wpAny_pure h

theorem TS_for {t it : Expr} {b o : List Stmt} {pos : Pos} {Q : AFlow → Loc → AHeap → Prop} (hs : ∀ (env : Env) x, foldedSetIterable it env x = pure x)
    (h : TE C it ρ H fun v H₁ => ∃ Vals src, IterSome C v H₁ Vals src ∧ ∀ xs, Vals xs → ∃ Iv : Nat → Loc → AHeap → Prop, Iv 0 ρ H₁ ∧ (∀ i ρ₂ H₂, Iv i ρ₂ H₂ → src H₂) ∧
      (∀ i ρ₂ H₂ v, xs[i]? = some v → Iv i ρ₂ H₂ → ∀ I ob, TA (C.hold I ob) t v ρ₂ H₂ fun ρ₃ => TSs (C.hold I ob) b ρ₃ H₂ fun f ρ₄ H₄ => match f with
        | .next | .cont => Iv (i + 1) ρ₄ H₄
        | .brk => Q .next ρ₄ H₄
        | .ret v => Q (.ret v) ρ₄ H₄) ∧
      (∀ ρ₂ H₂, Iv xs.length ρ₂ H₂ → TSs C o ρ₂ H₂ Q)) : TS C (.For t it b o pos) ρ H Q := fun A env s ok R => by
  refine wpAny_For ((h A env s ok R).mono fun x s₁ ⟨t₁, v, H₁, h1, R₁, Vals, src, hit, hb⟩ => (hit A env ρ s₁ x (ok.within.le (by decide)) R₁ h1).mono fun it' s₂ ⟨t₂, R₂, I, ob, K, xs, hvals, e, F, g, hK, ⟨hodd, hty, hnext⟩, _⟩ => ?_) (hs env)
  subst e
  obtain ⟨Iv, hI0, hsrc, hstep, hdone⟩ := hb xs hvals
  refine codeAny_forLoop_any (fun k s' => ∃ i ρ₂ H₂ ob, SRep C env ρ₂ H₂ s' ∧ Iv i ρ₂ H₂ ∧ Free C env H₂ I ∧ s'.heap.get? I = some ob ∧ K i ob ∧ i ≤ xs.length ∧ k = xs.length + 1 - i) (fun k s' hk => ?_) (xs.length + 1) ⟨0, ρ, H₁, ob, R₂, hI0, F, g, hK, Nat.zero_le _, rfl⟩
  obtain ⟨i, ρ₂, H₂, ob, R', hIv, F', g', hK', hi, rfl⟩ := hk
  refine wpAny_mono (hnext A env ρ₂ H₂ s' i ob (ok.within.le (by decide)) R' (hsrc _ _ _ hIv) F' g' hK' hi) (fun r s₃ ⟨t₃, R₃, hr⟩ => ?_) fun _ _ e => e.elim
  cases r with
  | none =>
    subst hr
    exact wpAny_mono (hdone ρ₂ H₂ hIv A env s₃ ok R₃) (fun f s₄ h => h) fun _ _ e => e.elim
  | some c =>
    obtain ⟨v', ob', hx, hv', g₃, hK₃⟩ := hr
    obtain ⟨T, hT, hn⟩ := hty _ _ hK₃
    have hi' : i < xs.length := (List.getElem?_eq_some_iff.mp hx).1
    refine wpAny_mono (letGo_no (C := C) (t := t) (v := c) (Q := fun _ s => s = s₃) g₃ hT hn rfl) (fun _ s₃' e => ?_) fun _ _ e => e.elim
    subst e
    have F₃ : Free C env H₂ I := F'
    refine wpAny_mono (hstep i ρ₂ H₂ v' hx hIv I ob' A env s₃' c (ok.hold I ob') (R₃.free g₃ F₃) hv') (fun _ s₅ ⟨ρ₃, R₅, _, hbody⟩ => ?_) fun _ _ e => e.elim
    refine wpAny_mono (hbody A env s₅ (ok.hold I ob') R₅) (fun f s₆ ⟨af, ρ₄, H₄, hf, R₆, hq⟩ => ?_) fun _ _ e => e.elim
    obtain ⟨R₇, g₇, F₇⟩ := R₆.back (hodd _ _ hK₃) F'.old
    cases af with
    | next => obtain rfl := hf; exact ⟨xs.length + 1 - (i + 1), by omega, i + 1, ρ₄, H₄, ob', R₇, hq, F₇, g₇, hK₃, hi', rfl⟩
    | cont => obtain rfl := hf; exact ⟨xs.length + 1 - (i + 1), by omega, i + 1, ρ₄, H₄, ob', R₇, hq, F₇, g₇, hK₃, hi', rfl⟩
    | brk => obtain rfl := hf; exact ⟨.next, ρ₄, H₄, rfl, R₇, hq⟩
    | ret v => obtain ⟨c', rfl, h6⟩ := hf; exact ⟨.ret v, ρ₄, H₄, ⟨c', rfl, h6⟩, R₇, hq⟩

/-- a list's items as they are held -/
def AObj.items? : AObj → Option (List AV)
  | .list xs | .ro xs => some xs
  | _ => none
def AHeap.items (H : AHeap) (a : Addr) : Option (List AV) := (H a).bind AObj.items?
theorem SRep.listAt {a : Addr} {xs : List AV} (R : SRep C env ρ H s) (e : H.items a = some xs) : LRep s.heap a xs := by
  unfold AHeap.items at e
  cases q : H a with
  | none => rw [q] at e; cases e
  | some o =>
    rw [q] at e
    have y := R.hp a o q
    cases o with
    | list ys => cases e; exact y.1
    | ro ys => cases e; exact y.1
    | _ => cases e

theorem SRep.moved {a : Addr} {ob : Obj} {h' : Heap} {tk : Nat} (R : SRep C env ρ H s) (g : s.heap.get? a = some ob) (F : Free C env H a) (o : Odd ob) (hs : Heap.ExtBut a s.heap h') : TExt s.heap h' ∧ SRep C env ρ H { s with heap := h', toks := tk } :=
  ⟨TExt.other g o.t hs, R.other g F.old F.un F.loc F.cell o.t hs⟩

theorem next_list {P : Program} {w : World} {I a : Addr} {xs : List AV} : NextR P w I xs (fun i ob => ob.cls = .type "list_iterator" ∧ ob.data = .fields #[.ref a, .int (i : Int) 0]) (fun h => LRep h a xs) where
  odd := fun i ob e => .of e.1 e.2
  ty := fun i ob e => ⟨_, e.1, by decide⟩
  self := fun A s i ob Q g e h => wpAny_pyIter_listiter (i := i) ⟨_, g, e.1, e.2⟩ h
  next := fun A s i ob ok hL g hob hi => by
    obtain ⟨vs, hl, hr⟩ := hL.isList
    have hodd : Odd ob := .of hob.1 hob.2
    have hit : s.heap.IsListIter _ a i := ⟨_, g, hob.1, hob.2⟩
    by_cases hlt : i < xs.length
    · obtain ⟨v, hx⟩ : ∃ v, xs[i]? = some v := ⟨_, List.getElem?_eq_getElem hlt⟩
      obtain ⟨c, hc, hvc⟩ := hr.get hx
      have hc' : vs[i]? = some c := by simpa using hc
      refine wpAny_pyNext_list_item hit hl hc' fun h' hit' hs' => ?_
      have t : TExt s.heap h' := TExt.other g hodd.t hs'.extBut
      obtain ⟨ob', g', c1, c2⟩ := hit'
      exact ⟨⟨h', s.toks, rfl, hs'.extBut⟩, v, ob', hx, hvc.t t, g', c1, by simpa using c2⟩
    · have he : i = xs.length := by omega
      have hc' : vs[i]? = none := by
        have := hr.length
        rw [Array.getElem?_eq_none]
        simp only [Array.length_toList] at this
        omega
      exact wpAny_pyNext_list_end ok.handled hit hl hc' fun h' hs' => ⟨⟨h', s.toks, rfl, hs'⟩, he⟩
theorem iter_list {a : Addr} {xs : List AV} (e : H.items a = some xs) : IterOf C (.ref a) H xs (fun H' => H'.items a = some xs) := fun A env ρ s c ok R hv => by
  obtain rfl := hv
  have hL := R.listAt e
  obtain ⟨vs, hl, hr⟩ := hL.isList
  refine wpAny_pyIter_list hl ⟨(Ext.push _ _).t, R.to (tk := s.toks) (Ext.push _ _), _, { cls := .type "list_iterator", data := .fields #[.ref a, .int 0 0] }, fun i ob => ob.cls = .type "list_iterator" ∧ ob.data = .fields #[.ref a, .int (i : Int) 0], rfl, R.freshAt (Nat.le_refl _), Heap.get?_push_size _ rfl, ⟨rfl, rfl⟩, next_list.of fun env ρ H s R hs => R.listAt hs, ⟨_, s.toks, rfl, Ext.push _ _⟩, Nat.le_refl _, _, next_list, fun h' hx => ?_⟩
  have t : TExt s.heap h' := (Ext.push s.heap _).t.trans (TExt.otherK (Heap.get?_push_size _ rfl) (fun vs n q => absurd (Value.type.inj (congrArg Obj.cls q)) (by decide)) hx)
  refine hL.t t fun o g => (hx a o (Nat.ne_of_lt (Heap.lt_size g)) (Heap.get?_push_of_some _ g)).exact ?_
  obtain ⟨vs', n', g', _⟩ := hL
  rw [g] at g'; cases g'
  exact Main.nf (.inl rfl)

/-- the ints from 0 below n -/
def upto (n : Nat) : List Int := (List.range n).map Int.ofNat
theorem upto_get {n i : Nat} (h : i < n) : (upto n)[i]? = some (i : Int) := by simp [upto, h]
theorem upto_length (n : Nat) : (upto n).length = n := by simp [upto]
theorem entry_rangeit_iter : entryFor table "range_iterator.__iter__" = some Builtin.«dict_keyiterator.__iter__» :=
  entryFor_alias (id' := "dict_keyiterator.__iter__") (by rw [fastTable_eq_tree]; kernel_rfl) rfl (by decide +kernel) (by rw [fastTable_eq_tree]; kernel_rfl)
theorem args_rangeit_iter (a : Value) : argsOk "range_iterator.__iter__" ⟨[a], []⟩ := by unfold argsOk; kernel_rfl
theorem next_range {P : Program} {w : World} {I : Addr} {n : Nat} : NextR P w I ((upto n).map .int) (fun i ob => ob = { cls := .type "range_iterator", data := .fields #[rawInt i, rawInt ((n : Int) - i), rawInt 1] }) (fun _ => True) where
  odd := fun i ob e => .of (T := "range_iterator") (vs := #[rawInt i, rawInt ((n : Int) - i), rawInt 1]) (by rw [e]) (by rw [e])
  ty := fun i ob e => ⟨"range_iterator", by rw [e], by decide⟩
  self := fun A s i ob Q g e h => by
    subst e
    refine wpAny_pyIter_slot ⟨_, g, rfl⟩ PySem.F.slot_range_iterator_iter (wpAny_call_entry PySem.F.slot_range_iterator_iter ⟨_, g, rfl⟩ entry_rangeit_iter ?_ (args_rangeit_iter _))
    show wpAny _ _ (ret (.ref I)) _ _ s
    exact wpAny_pure ⟨_, rfl, "range_iterator", _, ⟨_, g, rfl⟩, PySem.F.slot_range_iterator_next.lookup, h⟩
  next := fun A s i ob ok _ g hob hi => by
    subst hob
    have hodd : Odd { cls := .type "range_iterator", data := .fields #[rawInt i, rawInt ((n : Int) - i), rawInt 1] } := .of (T := "range_iterator") rfl rfl
    simp only [List.length_map, upto_length] at hi
    have hit : IsRangeIter s.heap I (i : Int) (n - i) 1 := g
    by_cases hlt : i < n
    · refine wpAny_pyNext_range_item hit (by omega) fun h' hit' hs' => ?_
      refine ⟨⟨h', s.toks + 1, rfl, hs'.extBut⟩, .int i, _, by simp [upto_get hlt], ⟨_, rfl⟩, hit', ?_⟩
      have e1 : ((i : Int) + 1) = ((i + 1 : Nat) : Int) := by omega
      have e2 : ((n : Int) - i - 1) = (n : Int) - ((i + 1 : Nat) : Int) := by omega
      rw [e1, e2]
    · exact wpAny_pyNext_range_end ok.handled hit (by omega) fun h' hs' => ⟨⟨h', s.toks, rfl, hs'⟩, by simp [upto_length]; omega⟩
theorem iter_range {r : Addr} {n : Nat} (hn : n < 2 ^ 31) (e : H r = some (.rng n)) : IterOf C (.ref r) H ((upto n).map .int) fun _ => True := fun A env ρ s c ok R hv => by
  obtain rfl := hv
  obtain ⟨t, u, v, g⟩ := (R.hp r _ e).1
  have hsz : Builtin.Range.rangeSize 0 (n : Int) 1 = (n : Int) := by unfold Builtin.Range.rangeSize; split <;> split <;> omega
  have hsm : Builtin.Range.small 0 (n : Int) 1 = true := by
    unfold Builtin.Range.small
    rw [hsz]
    have hf : ∀ k : Int, 0 ≤ k → k < 2 ^ 31 → Builtin.Range.rangeFitsLong k = true := fun k h1 h2 => by unfold Builtin.Range.rangeFitsLong; simp; omega
    rw [hf 0 (by omega) (by omega), hf n (by omega) (by omega), hf 1 (by omega) (by omega), if_pos (by omega), hf _ (by omega) (by omega)]; simp
  refine wpAny_pyIter_range g hsm ?_
  rw [hsz]
  exact ⟨(Ext.push _ _).t, R.to (tk := s.toks) (Ext.push _ _), _, _, fun i ob => ob = { cls := .type "range_iterator", data := .fields #[rawInt i, rawInt (n - i), rawInt 1] }, rfl, R.freshAt (Nat.le_refl _), Heap.get?_push_size _ rfl, by simp,
    next_range.of fun _ _ _ _ _ _ => trivial, ⟨_, s.toks, rfl, Ext.push _ _⟩, Nat.le_refl _, _, next_range, fun _ _ => trivial⟩
end
end Mine
end
section
open PySem PySem.W PyProof.Rows
set_option maxRecDepth 10000
set_option autoImplicit false
set_option linter.unusedVariables false
namespace Mine
section
variable {C : Cx} {A : Around} {env : Env} {ρ : Loc} {H : AHeap} {s : Shared}

/-! ints -/
theorem T2_add {a b : Int} {Q : AV → AHeap → Prop} (h : Q (.int (a + b)) H) : T2 C (binaryOp .Add) (.int a) (.int b) H Q := fun A env ρ s va vb ok R h1 h2 => by
  obtain ⟨t, rfl⟩ := h1; obtain ⟨u, rfl⟩ := h2
  exact PyProof.Rows.add_int ⟨TExt.refl _, .int (a + b), H, ⟨_, rfl⟩, R.tok, h⟩
theorem T2_mod {a b : Int} {Q : AV → AHeap → Prop} (hb : b ≠ 0) (h : Q (.int (a.fmod b)) H) : T2 C (binaryOp .Mod) (.int a) (.int b) H Q := fun A env ρ s va vb ok R h1 h2 => by
  obtain ⟨t, rfl⟩ := h1; obtain ⟨u, rfl⟩ := h2
  exact mod_int' hb ⟨TExt.refl _, .int (a.fmod b), H, ⟨_, rfl⟩, R.tok, h⟩
theorem T2_div {a b : Int} {Q : AV → AHeap → Prop} (hb : b ≠ 0) (hs : b.natAbs < 1073741824) (h : Q (.int (a.fdiv b)) H) : T2 C (binaryOp .FloorDiv) (.int a) (.int b) H Q := fun A env ρ s va vb ok R h1 h2 => by
  obtain ⟨t, rfl⟩ := h1; obtain ⟨u, rfl⟩ := h2
  exact floordiv_int hb ⟨TExt.refl _, .int (a.fdiv b), H, ⟨_, rfl⟩, R.tok, h⟩ (Or.inl (PyProof.noPylong_small hs))
theorem T2_shr {a b : Int} {Q : AV → AHeap → Prop} (hb : 0 ≤ b) (h : Q (.int (a.fdiv (2 ^ b.toNat))) H) : T2 C (binaryOp .RShift) (.int a) (.int b) H Q := fun A env ρ s va vb ok R h1 h2 => by
  obtain ⟨t, rfl⟩ := h1; obtain ⟨u, rfl⟩ := h2
  exact rshift_int hb ⟨TExt.refl _, .int (a.fdiv (2 ^ b.toNat)), H, ⟨_, rfl⟩, R.tok, h⟩
theorem T2_shl {a b : Int} {Q : AV → AHeap → Prop} (hb : 0 ≤ b) (hb2 : b ≤ 1000000) (ha : a.natAbs < 2 ^ 64) (h : Q (.int (a * 2 ^ b.toNat)) H) : T2 C (binaryOp .LShift) (.int a) (.int b) H Q := fun A env ρ s va vb ok R h1 h2 => by
  obtain ⟨t, rfl⟩ := h1; obtain ⟨u, rfl⟩ := h2
  exact lshift_int_small hb hb2 ha ⟨TExt.refl _, .int (a * 2 ^ b.toNat), H, ⟨_, rfl⟩, R.tok, h⟩
theorem T2_and {a b : Int} {Q : AV → AHeap → Prop} (h : Q (.int (Builtin.bitAnd a b)) H) : T2 C (binaryOp .BitAnd) (.int a) (.int b) H Q := fun A env ρ s va vb ok R h1 h2 => by
  obtain ⟨t, rfl⟩ := h1; obtain ⟨u, rfl⟩ := h2
  exact and_int ⟨TExt.refl _, .int _, H, ⟨_, rfl⟩, R.tok, h⟩
theorem T2_ior {a b : Int} {Q : AV → AHeap → Prop} (h : Q (.int (Builtin.bitOr a b)) H) : T2 C (inplaceOp .BitOr) (.int a) (.int b) H Q := fun A env ρ s va vb ok R h1 h2 => by
  obtain ⟨t, rfl⟩ := h1; obtain ⟨u, rfl⟩ := h2
  exact ior_int ⟨TExt.refl _, .int _, H, ⟨_, rfl⟩, R.tok, h⟩
theorem T2_eqi {a b : Int} {Q : AV → AHeap → Prop} (h : Q (.bool (a == b)) H) : T2 C (compareOp .Eq) (.int a) (.int b) H Q := fun A env ρ s va vb ok R h1 h2 => by
  obtain ⟨t, rfl⟩ := h1; obtain ⟨u, rfl⟩ := h2
  exact PyProof.Rows.eq_int ⟨TExt.refl _, .bool _, H, rfl, R, h⟩
theorem T2_nei {a b : Int} {Q : AV → AHeap → Prop} (h : Q (.bool (a != b)) H) : T2 C (compareOp .NotEq) (.int a) (.int b) H Q := fun A env ρ s va vb ok R h1 h2 => by
  obtain ⟨t, rfl⟩ := h1; obtain ⟨u, rfl⟩ := h2
  exact PyProof.Rows.ne_int ⟨TExt.refl _, .bool _, H, rfl, R, h⟩

theorem LRep.prim {h : Heap} {a : Addr} {xs : List AV} (x : LRep h a xs) : ∃ vs n, h.get? a = some (listOf vs n) ∧ VReps h xs vs.toList := x

/-! lists: a new one from two, from one n times -/
theorem T2_cat {a b : Addr} {xs ys : List AV} {Q : AV → AHeap → Prop} (hx : H.items a = some xs) (hy : H.items b = some ys) (hsz : xs.length + ys.length ≤ sizeLine) (h : ∀ r, H r = none → Q (.ref r) (H.upd r (.list (xs ++ ys)))) :
    T2 C (binaryOp .Add) (.ref a) (.ref b) H Q := fun A env ρ s va vb ok R h1 h2 => by
  obtain rfl := h1; obtain rfl := h2
  obtain ⟨vs, hl, hr⟩ := (R.listAt hx).isList
  obtain ⟨ws, hl', hr'⟩ := (R.listAt hy).isList
  have e1 : xs.length = vs.size := by simpa using hr.length
  have e2 : ys.length = ws.size := by simpa using hr'.length
  obtain ⟨⟨cls, dd, data, sl⟩, ho, hc, n, hd⟩ := id hl
  obtain ⟨⟨cls2, dd2, data2, sl2⟩, ho2, hc2, n2, hd2⟩ := id hl'
  simp only at hc hd hc2 hd2
  subst hc hd hc2 hd2
  refine concat_meets ⟨_, ho, rfl⟩ ⟨_, ho2, rfl⟩ noFill_list_add seq_list_add PySem.F.slot_list_add PySem.F.entry_list_add (PySem.F.args_list_add_2 _ _) (list_addW a b vs ws n n2 dd dd2 sl sl2 (by omega)) ⟨ho, ho2, ?_⟩
  have t : TExt s.heap (s.heap.push { cls := .type "list", data := .seq (vs ++ ws) }) := (Ext.push _ _).t
  have R' : SRep C env ρ H { s with heap := s.heap.push { cls := .type "list", data := .seq (vs ++ ws) }, toks := s.toks } := R.to (Ext.push _ _)
  have g : (s.heap.push { cls := .type "list", data := .seq (vs ++ ws) }).get? s.heap.objs.size = some { cls := .type "list", data := .seq (vs ++ ws) } := Heap.get?_push_size _ rfl
  refine ⟨t, .ref _, _, rfl, R'.add (o := .list (xs ++ ys)) ⟨⟨_, 0, g, ?_⟩, R.fresh (Nat.le_refl _)⟩ (Nat.ne_of_gt R.ltL), h _ (R.unheld (Nat.le_refl _))⟩
  simpa using (hr.append hr').t t

theorem foldl_cat (items : Array Value) : ∀ (n : Nat) (acc : Array Value), (List.foldl (fun x1 x2 => x1 ++ x2) acc (List.replicate n items)).toList = acc.toList ++ (List.replicate n items.toList).flatten
  | 0, acc => by simp
  | n + 1, acc => by
    rw [List.replicate_succ, List.foldl_cons, foldl_cat items n, List.replicate_succ, List.flatten_cons, Array.toList_append, List.append_assoc]
/-- [x] * n -/
theorem T2_rep {a : Addr} {x : AV} {n : Int} {Q : AV → AHeap → Prop} (hx : H a = some (.list [x])) (hn : 0 ≤ n) (hn2 : n < 2 ^ 20) (h : ∀ r, H r = none → Q (.ref r) (H.upd r (.list (List.replicate n.toNat x)))) :
    T2 C (binaryOp .Mult) (.ref a) (.int n) H Q := fun A env ρ s va vb ok R h1 h2 => by
  obtain rfl := h1; obtain ⟨u, rfl⟩ := h2
  obtain ⟨⟨vs, k, g, hr⟩, _⟩ := R.hp a _ hx
  obtain ⟨c, rfl⟩ : ∃ c, vs = #[c] := by
    have := hr.length
    match vs, hr with
    | ⟨[c]⟩, _ => exact ⟨c, rfl⟩
    | ⟨[]⟩, hr => exact hr.elim
    | ⟨_ :: _ :: _⟩, hr => exact hr.2.elim
  have hsm : (#[c] : Array Value).size * n.toNat ≤ 2 ^ 24 := by simp; omega
  refine wpAny_binaryOp_repeat_ref (T := "list") (U := "int") (by decide) ⟨_, g, rfl⟩ (fun s' => typeIs_int s' n u) noFill_list_mul PySem.F.fills_int_mul PySem.F.slot_int_rmul repeat_list PySem.F.slot_int_index.lookup
    (call_meets PySem.F.slot_int_rmul (typeIs_int s n u) PySem.F.entry_int_rmul (PySem.F.args_int_rmul_2 _ _) (int___rmul___int_list n u a #[c] k)
      ⟨g, rfl, ⟨_, g, rfl⟩, call_meets PySem.F.slot_list_mul ⟨_, g, rfl⟩ PySem.F.entry_list_mul (PySem.F.args_list_mul_2 _ _)
        (AutoListH.list___mul___list_int_3 a #[c] k n u (by simp [Builtin.List.listFitsIndex]; omega) (by omega) (by simp [Builtin.List.listTooLong, sizeLine]; omega)) ⟨g, ?_⟩⟩)
  have t : TExt s.heap (s.heap.push { cls := .type "list", data := .seq (List.foldl (fun x1 x2 => x1 ++ x2) #[] (List.replicate (if (#[c] : Array Value).isEmpty = true then 0 else n.toNat) #[c])) }) := (Ext.push _ _).t
  have R' : SRep C env ρ H { s with heap := s.heap.push { cls := .type "list", data := .seq (List.foldl (fun x1 x2 => x1 ++ x2) #[] (List.replicate (if (#[c] : Array Value).isEmpty = true then 0 else n.toNat) #[c])) }, toks := s.toks } := R.to (Ext.push _ _)
  have g' : (s.heap.push { cls := .type "list", data := .seq (List.foldl (fun x1 x2 => x1 ++ x2) #[] (List.replicate (if (#[c] : Array Value).isEmpty = true then 0 else n.toNat) #[c])) }).get? s.heap.objs.size = some { cls := .type "list", data := .seq (List.foldl (fun x1 x2 => x1 ++ x2) #[] (List.replicate (if (#[c] : Array Value).isEmpty = true then 0 else n.toNat) #[c])) } := Heap.get?_push_size _ rfl
  refine ⟨t, .ref _, _, rfl, R'.add (o := .list (List.replicate n.toNat x)) ⟨⟨_, 0, g', ?_⟩, R.fresh (Nat.le_refl _)⟩ (Nat.ne_of_gt R.ltL), h _ (R.unheld (Nat.le_refl _))⟩
  have e : (List.replicate n.toNat [c]).flatten = List.replicate n.toNat c := by
    generalize n.toNat = k
    induction k with
    | zero => rfl
    | succ k ih => rw [List.replicate_succ, List.flatten_cons, ih, List.replicate_succ]; rfl
  rw [foldl_cat]
  simp only [Array.isEmpty, List.size_toArray, List.length_singleton]
  simpa [e] using VReps.replicate (hr.1.t t) n.toNat
end
end Mine
end
section
open PySem PySem.W PyProof.Rows PySem.SeqAt
set_option maxRecDepth 10000
set_option autoImplicit false
set_option linter.unusedVariables false
namespace Mine

/-! values that are told apart: ints, pairs -/
structure Keyed {α : Type} [DecidableEq α] (f : α → AV) : Prop where
  inj : ∀ h x y v, VRep h (f x) v → VRep h (f y) v → x = y
  eq : ∀ (A : Around) (s : Shared) x y vx vy, A.units < cLine → VRep s.heap (f x) vx → VRep s.heap (f y) vy → EqAt A s vx vy (decide (x = y))
theorem keyedInt : Keyed AV.int where
  inj := fun h x y v ⟨t, h1⟩ ⟨u, h2⟩ => by rw [h1] at h2; exact (Value.int.inj h2).1
  eq := fun A s x y vx vy hu ⟨t, h1⟩ ⟨u, h2⟩ => by
    subst h1; subst h2
    have := EqAt.int_int (A := A) (s := s) x t y u
    rwa [show (x == y) = decide (x = y) from rfl] at this
theorem pair_rep {h : Heap} {p : Int × Int} {v : Value} (r : VRep h (.pair p) v) : ∃ a t u n, v = .ref a ∧ h.get? a = some (tupObj #[.int p.1 t, .int p.2 u] n) := by
  obtain ⟨a, vs, n, e, g, q⟩ := r
  match vs, q with
  | ⟨[x, y]⟩, ⟨⟨t, h1⟩, ⟨u, h2⟩, _⟩ => subst h1; subst h2; exact ⟨a, t, u, n, e, g⟩
  | ⟨[]⟩, q => exact q.elim
  | ⟨[_]⟩, q => exact q.2.elim
  | ⟨_ :: _ :: _ :: _⟩, q => exact q.2.2.elim
theorem keyedPair : Keyed AV.pair where
  inj := fun h x y v h1 h2 => by
    obtain ⟨a, t, u, n, e, g⟩ := pair_rep h1
    obtain ⟨a', t', u', n', e', g'⟩ := pair_rep h2
    rw [e] at e'; cases e'; rw [g] at g'
    simp at g'
    exact Prod.ext g'.1.1.1 g'.1.2.1
  eq := fun A s x y vx vy hu h1 h2 => by
    obtain ⟨a, t, u, n, e, g⟩ := pair_rep h1
    obtain ⟨a', t', u', n', e', g'⟩ := pair_rep h2
    subst e; subst e'
    by_cases q : a = a'
    · subst q
      rw [g] at g'
      simp at g'
      have : x = y := Prod.ext g'.1.1.1 g'.1.2.1
      simp only [this, decide_true]; exact EqAt.same _
    · have i1 : s.heap.IsTuple a #[.int x.1 t, .int x.2 u] := ⟨_, g, rfl, n, rfl⟩
      have i2 : s.heap.IsTuple a' #[.int y.1 t', .int y.2 u'] := ⟨_, g', rfl, n', rfl⟩
      have := EqAt.of_refs q (RcAt.tuples (A := A) (e := fun j => if j = 0 then x.1 == y.1 else x.2 == y.2) i1 i2 hu fun j h1 h2 => by
        match j, h1 with
        | 0, _ => exact EqAt.int_int _ _ _ _
        | 1, _ => exact EqAt.int_int _ _ _ _
        | j + 2, h1 => exact absurd h1 (by simp))
      have e : ((List.range (min #[Value.int x.1 t, Value.int x.2 u].size #[Value.int y.1 t', Value.int y.2 u'].size)).all (fun j => if j = 0 then x.1 == y.1 else x.2 == y.2) && (#[Value.int x.1 t, Value.int x.2 u].size == #[Value.int y.1 t', Value.int y.2 u'].size)) = decide (x = y) := by
        have r : List.range (min #[Value.int x.1 t, Value.int x.2 u].size #[Value.int y.1 t', Value.int y.2 u'].size) = [0, 1] := rfl
        rw [r]
        simp only [List.all_cons, List.all_nil, if_true, Nat.one_ne_zero, if_false, List.size_toArray, List.length_cons, List.length_nil, beq_self_eq_true, Bool.and_true]
        rw [Bool.eq_iff_iff]
        simp [Prod.ext_iff]
      rwa [e] at this

section
variable {C : Cx} {A : Around} {env : Env} {ρ : Loc} {H : AHeap} {s : Shared}
theorem AOk.lt (ok : AOk C A env) : A.units < cLine := by have := ok.units; omega

/-- a test of every item against one -/
theorem any_rep {α : Type} [DecidableEq α] {f : α → AV} (F : Keyed f) {h : Heap} {k : α} {ks : List α} {vs : List Value} (hr : VReps h (ks.map f) vs) [∀ v, Decidable (VRep h (f k) v)] :
    vs.any (fun v => decide (VRep h (f k) v)) = decide (k ∈ ks) := by
  induction ks generalizing vs with
  | nil => cases vs with
    | nil => simp
    | cons _ _ => exact hr.elim
  | cons x xs ih => cases vs with
    | nil => exact hr.elim
    | cons v vs =>
      rw [List.any_cons, ih hr.2]
      by_cases q : k = x
      · subst q; have h1 : VRep h (f k) v := hr.1; simp [h1]
      · have : ¬ VRep h (f k) v := fun h1 => q (F.inj h _ _ _ h1 hr.1)
        simp [this, q]
theorem VReps.mem {h : Heap} {vs : List AV} {cs : List Value} (r : VReps h vs cs) {c : Value} (hc : c ∈ cs) : ∃ v ∈ vs, VRep h v c := by
  induction vs generalizing cs with
  | nil => cases cs with
    | nil => cases hc
    | cons _ _ => exact r.elim
  | cons x xs ih => cases cs with
    | nil => exact r.elim
    | cons d ds =>
      rcases List.mem_cons.mp hc with rfl | hc
      · exact ⟨x, by simp, r.1⟩
      · obtain ⟨v, h1, h2⟩ := ih r.2 hc; exact ⟨v, by simp [h1], h2⟩
open Classical in
theorem eqAt_items {α : Type} [DecidableEq α] {f : α → AV} (F : Keyed f) (hu : A.units < cLine) {k : α} {c : Value} {ks : List α} {vs : Array Value} (hk : VRep s.heap (f k) c) (hr : VReps s.heap (ks.map f) vs.toList) :
    ∀ y, y ∈ vs → EqAt A s y c (decide (VRep s.heap (f k) y)) := fun y hy => by
  obtain ⟨v, h1, h2⟩ := hr.mem (by simpa using hy)
  obtain ⟨x, hx, rfl⟩ := List.mem_map.mp h1
  have := F.eq A s x k y c hu h2 hk
  have e : (decide (x = k)) = decide (VRep s.heap (f k) y) := by
    rw [decide_eq_decide]
    exact ⟨fun q => q ▸ h2, fun q => F.inj _ _ _ _ h2 q⟩
  rwa [e] at this

theorem T2_in {α : Type} [DecidableEq α] {f : α → AV} (F : Keyed f) {k : α} {a : Addr} {ks : List α} {Q : AV → AHeap → Prop} (hx : H.items a = some (ks.map f)) (h : Q (.bool (decide (k ∈ ks))) H) : T2 C (compareOp .In) (f k) (.ref a) H Q := fun A env ρ s va vb ok R h1 h2 => by
  classical
  obtain rfl := h2
  obtain ⟨vs, hl, hr⟩ := (R.listAt hx).isList
  refine in_listAt _ hl (eqAt_items F (A := A.in1) (by have := ok.units; show A.units + 1 < cLine; have : cLine = 9900 := rfl; omega) h1 hr) ⟨TExt.refl _, .bool _, H, ?_, R, h⟩
  show Value.bool _ = Value.bool _
  rw [← any_rep F hr, ← Array.any_toList]
theorem T2_notin {α : Type} [DecidableEq α] {f : α → AV} (F : Keyed f) {k : α} {a : Addr} {ks : List α} {Q : AV → AHeap → Prop} (hx : H.items a = some (ks.map f)) (h : Q (.bool (!decide (k ∈ ks))) H) : T2 C (compareOp .NotIn) (f k) (.ref a) H Q := fun A env ρ s va vb ok R h1 h2 => by
  classical
  obtain rfl := h2
  obtain ⟨vs, hl, hr⟩ := (R.listAt hx).isList
  refine notIn_listAt _ hl (eqAt_items F (A := A.in1) (by have := ok.units; show A.units + 1 < cLine; have : cLine = 9900 := rfl; omega) h1 hr) ⟨TExt.refl _, .bool _, H, ?_, R, h⟩
  show Value.bool _ = Value.bool _
  rw [← any_rep F hr, ← Array.any_toList]

/-! == of lists -/
theorem range_all {α : Type} [DecidableEq α] (xs ys : List α) (hl : xs.length = ys.length) : (List.range xs.length).all (fun j => decide (xs[j]? = ys[j]?)) = decide (xs = ys) := by
  rw [Bool.eq_iff_iff]
  simp only [List.all_eq_true, List.mem_range, decide_eq_true_eq]
  exact ⟨fun h => List.ext_getElem? fun i => if q : i < xs.length then h i q else by rw [List.getElem?_eq_none (by omega), List.getElem?_eq_none (by omega)], fun h j _ => by rw [h]⟩
theorem VReps.at {α : Type} {f : α → AV} {h : Heap} {xs : List α} {vs : Array Value} (r : VReps h (xs.map f) vs.toList) {j : Nat} (hj : j < vs.size) : ∃ x, xs[j]? = some x ∧ VRep h (f x) vs[j] := by
  have hl := r.length
  simp at hl
  have hx : (xs.map f)[j]? = some (f (xs[j]'(by omega))) := by simp [List.getElem?_eq_getElem (show j < xs.length by omega)]
  obtain ⟨c, h1, h2⟩ := r.get hx
  have : vs[j] = c := by
    have e : vs.toList[j]? = some vs[j] := by simp [hj]
    rw [e] at h1; exact Option.some.inj h1
  exact ⟨_, List.getElem?_eq_getElem _, this ▸ h2⟩
theorem eqAt_lists {α : Type} [DecidableEq α] {f : α → AV} (F : Keyed f) (hu : A.units < cLine) {xs ys : List α} {vs ws : Array Value} (h1 : VReps s.heap (xs.map f) vs.toList) (h2 : VReps s.heap (ys.map f) ws.toList) :
    ∀ j (g1 : j < vs.size) (g2 : j < ws.size), EqAt A s vs[j] ws[j] (decide (xs[j]? = ys[j]?)) := fun j g1 g2 => by
  obtain ⟨x, e1, r1⟩ := h1.at g1
  obtain ⟨y, e2, r2⟩ := h2.at g2
  have := F.eq A s x y _ _ hu r1 r2
  rw [e1, e2]
  simpa using this
theorem T2_eql {α : Type} [DecidableEq α] {f : α → AV} (F : Keyed f) {a b : Addr} {xs ys : List α} {Q : AV → AHeap → Prop} (hx : H.items a = some (xs.map f)) (hy : H.items b = some (ys.map f)) (h : Q (.bool (decide (xs = ys))) H) : T2 C (compareOp .Eq) (.ref a) (.ref b) H Q := fun A env ρ s va vb ok R h1 h2 => by
  obtain rfl := h1; obtain rfl := h2
  obtain ⟨vs, hl, hr⟩ := (R.listAt hx).isList
  obtain ⟨ws, hl', hr'⟩ := (R.listAt hy).isList
  have e1 := hr.length
  have e2 := hr'.length
  simp at e1 e2
  by_cases q : xs.length = ys.length
  · refine eq_listAt hl hl' (by omega) ok.lt (eqAt_lists F (by have := ok.units; show A.units + 1 < cLine; omega) hr hr') ⟨TExt.refl _, .bool _, H, ?_, R, h⟩
    show Value.bool _ = Value.bool _
    rw [← e1, range_all xs ys q]
  · refine eq_list_lengthsAt hl hl' (by simp; omega) ok.lt ⟨TExt.refl _, .bool _, H, ?_, R, h⟩
    show Value.bool _ = Value.bool _
    rw [decide_eq_false (fun e => q (by rw [e]))]
theorem T2_nel {α : Type} [DecidableEq α] {f : α → AV} (F : Keyed f) {a b : Addr} {xs ys : List α} {Q : AV → AHeap → Prop} (hx : H.items a = some (xs.map f)) (hy : H.items b = some (ys.map f)) (h : Q (.bool (!decide (xs = ys))) H) : T2 C (compareOp .NotEq) (.ref a) (.ref b) H Q := fun A env ρ s va vb ok R h1 h2 => by
  obtain rfl := h1; obtain rfl := h2
  obtain ⟨vs, hl, hr⟩ := (R.listAt hx).isList
  obtain ⟨ws, hl', hr'⟩ := (R.listAt hy).isList
  have e1 := hr.length
  have e2 := hr'.length
  simp at e1 e2
  by_cases q : xs.length = ys.length
  · refine RcNeAt.lists (A := A) hl hl' (by omega) ok.lt (eqAt_lists F (by have := ok.units; show A.units + 1 < cLine; omega) hr hr') _ _ _ _ ⟨TExt.refl _, .bool _, H, ?_, R, h⟩
    show Value.bool _ = Value.bool _
    rw [← e1, range_all xs ys q]
  · refine RcNeAt.lists_lengths (A := A) hl hl' (by simp; omega) ok.lt _ _ _ _ ⟨TExt.refl _, .bool _, H, ?_, R, h⟩
    show Value.bool _ = Value.bool _
    rw [decide_eq_false (fun e => q (by rw [e]))]; rfl

/-- i not in (a, b) -/
theorem T2_notinT {i : Int} {p : Int × Int} {Q : AV → AHeap → Prop} (h : Q (.bool (!(p.1 == i || p.2 == i))) H) : T2 C (compareOp .NotIn) (.int i) (.pair p) H Q := fun A env ρ s va vb ok R h1 h2 => by
  obtain ⟨t, rfl⟩ := h1
  obtain ⟨a, u, v, n, rfl, g⟩ := pair_rep h2
  refine notIn_tupleAt (fun y => match y with | .int j _ => j == i | _ => false) ⟨_, g, rfl, n, rfl⟩ (fun y hy => ?_) ⟨TExt.refl _, .bool _, H, ?_, R, h⟩
  · rcases (by simpa using hy) with rfl | rfl <;> exact EqAt.int_int _ _ _ _
  · show Value.bool _ = Value.bool _
    simp

/-! items -/
theorem TE_idx {value slice : Expr} {pos : Pos} {Q : AV → AHeap → Prop} (hs : ∀ o i, subscripted slice false o i = operate [o, i] (getItem o i))
    (h : TE C value ρ H fun v H₁ => TE C slice ρ H₁ fun w H₂ => ∃ a xs k x, v = .ref a ∧ w = .int k ∧ H₂.items a = some xs ∧ 0 ≤ k ∧ k < 2 ^ 63 ∧ xs[k.toNat]? = some x ∧ Q x H₂) : TE C (.Subscript value slice pos) ρ H Q := fun A env s ok R => by
  refine PyProof.Rows.Subscript_ ((h A env s ok R).mono fun v s₁ ⟨t₁, av, H₁, h1, R₁, h2⟩ => (h2 A env s₁ ok R₁).mono fun i s₂ ⟨t₂, aw, H₂, h3, R₂, a, xs, k, x, e1, e2, hx, h0, hk, hg, hq⟩ => ?_)
  subst e1; subst e2
  obtain rfl := h1; obtain ⟨u, rfl⟩ := h3
  obtain ⟨vs, hl, hr⟩ := (R₂.listAt hx).isList
  obtain ⟨c, hc, hv⟩ := hr.get hg
  exact tail_any hl.typeIs slot_list_getitem.lookup (wpAny_getItem_list hl h0 hk (by simpa using hc) ⟨t₁.trans t₂, x, H₂, hv, R₂, hq⟩) (hs _ _)
theorem TE_idxLast {value slice : Expr} {pos : Pos} {Q : AV → AHeap → Prop} (hs : ∀ o i, subscripted slice false o i = operate [o, i] (getItem o i))
    (h : TE C value ρ H fun v H₁ => TE C slice ρ H₁ fun w H₂ => ∃ a xs x, v = .ref a ∧ w = .int (-1) ∧ H₂.items a = some xs ∧ xs.getLast? = some x ∧ Q x H₂) : TE C (.Subscript value slice pos) ρ H Q := fun A env s ok R => by
  refine PyProof.Rows.Subscript_ ((h A env s ok R).mono fun v s₁ ⟨t₁, av, H₁, h1, R₁, h2⟩ => (h2 A env s₁ ok R₁).mono fun i s₂ ⟨t₂, aw, H₂, h3, R₂, a, xs, x, e1, e2, hx, hg, hq⟩ => ?_)
  subst e1; subst e2
  obtain rfl := h1; obtain ⟨u, rfl⟩ := h3
  obtain ⟨vs, hl, hr⟩ := (R₂.listAt hx).isList
  rw [List.getLast?_eq_getElem?] at hg
  obtain ⟨c, hc, hv⟩ := hr.get hg
  have e := hr.length
  simp at e
  have hpos : 0 < xs.length := by have := (List.getElem?_eq_some_iff.mp hg).1; omega
  refine tail_any hl.typeIs slot_list_getitem.lookup (wpAny_getItem_list_neg hl (by omega) (by omega) (by omega) ?_ ⟨t₁.trans t₂, x, H₂, hv, R₂, hq⟩) (hs _ _)
  have e2 : ((-1 : Int) + vs.size).toNat = xs.length - 1 := by omega
  rw [e2]; simpa using hc
theorem TE_idxT {value slice : Expr} {pos : Pos} {Q : AV → AHeap → Prop} (hs : ∀ o i, subscripted slice false o i = operate [o, i] (getItem o i))
    (h : TE C value ρ H fun v H₁ => TE C slice ρ H₁ fun w H₂ => ∃ p : Int × Int, v = .pair p ∧ ((w = .int 0 ∧ Q (.int p.1) H₂) ∨ (w = .int 1 ∧ Q (.int p.2) H₂))) : TE C (.Subscript value slice pos) ρ H Q := fun A env s ok R => by
  refine PyProof.Rows.Subscript_ ((h A env s ok R).mono fun v s₁ ⟨t₁, av, H₁, h1, R₁, h2⟩ => (h2 A env s₁ ok R₁).mono fun i s₂ ⟨t₂, aw, H₂, h3, R₂, p, e1, hq⟩ => ?_)
  subst e1
  obtain ⟨a, x, y, n, rfl, g⟩ := pair_rep (h1.t t₂)
  have ht : IsTup s₂.heap a #[.int p.1 x, .int p.2 y] := ⟨_, g, rfl, n, rfl⟩
  rcases hq with ⟨e, hq⟩ | ⟨e, hq⟩
  · subst e
    obtain ⟨u, rfl⟩ := h3
    exact tail_any ⟨_, g, rfl⟩ slot_tuple_getitem.lookup (PyProof.Rows.getItem_tuple ht (by omega) (by omega) (j := 0) rfl rfl ⟨t₁.trans t₂, .int p.1, H₂, ⟨_, rfl⟩, R₂, hq⟩) (hs _ _)
  · subst e
    obtain ⟨u, rfl⟩ := h3
    exact tail_any ⟨_, g, rfl⟩ slot_tuple_getitem.lookup (PyProof.Rows.getItem_tuple ht (by omega) (by omega) (j := 1) rfl rfl ⟨t₁.trans t₂, .int p.2, H₂, ⟨_, rfl⟩, R₂, hq⟩) (hs _ _)
theorem TE_neg {x : Expr} {pos : Pos} {Q : AV → AHeap → Prop} (h : TE C x ρ H fun v H₁ => ∃ i, v = .int i ∧ Q (.int (-i)) H₁) : TE C (.UnaryOp .USub x pos) ρ H Q := fun A env s ok R =>
  wpAny_UnaryOp ((h A env s ok R).mono fun v s₁ ⟨t, av, H₁, h1, R₁, i, e, hq⟩ => by
    subst e; obtain ⟨u, rfl⟩ := h1
    exact PyProof.Rows.neg_int ⟨t, .int (-i), H₁, ⟨_, rfl⟩, R₁.tok, hq⟩)

/-- one end of a slice -/
def TP (C : Cx) (e : Option Expr) (ρ : Loc) (H : AHeap) (Q : Option Nat → AHeap → Prop) : Prop := match e with
  | none => Q none H
  | some e => TE C e ρ H fun v H₁ => ∃ n : Nat, v = .int n ∧ Q (some n) H₁
theorem tp_ok {e : Option Expr} {Q : Option Nat → AHeap → Prop} (ok : AOk C A env) (R : SRep C env ρ H s) (h : TP C e ρ H Q) :
    W C A (evalPart e env) (fun v s₁ => TExt s.heap s₁.heap ∧ ∃ k H₁, IsPart v (k.map Int.ofNat) ∧ SRep C env ρ H₁ s₁ ∧ Q k H₁) s := by
  cases e with
  | none => exact wpAny_evalPart_none ⟨TExt.refl _, none, H, .none, R, h⟩
  | some e =>
    refine wpAny_evalPart_some (W.mono (h A env s ok R) fun v s₁ ⟨t, av, H₁, h1, R₁, n, e, hq⟩ => ?_)
    subst e; obtain ⟨u, rfl⟩ := h1
    exact ⟨t, some n, H₁, .int _ _, R₁, hq⟩
def cut {α : Type} (xs : List α) : Option Nat → Option Nat → List α
  | none, none => xs
  | some a, none => xs.drop a
  | none, some b => xs.take b
  | some a, some b => (xs.drop a).take (b - a)
theorem slicePick_cut (items : Array Value) (lo hi : Option Nat) : (slicePick items (lo.map Int.ofNat) (hi.map Int.ofNat) none).toList = cut items.toList lo hi := by
  match lo, hi with
  | none, none => show (slicePick items none none none).toList = _; rw [slicePick_all]; rfl
  | some a, none => show (slicePick items (some (a : Int)) none none).toList = _; rw [slicePick_from']; rfl
  | none, some b => show (slicePick items none (some (b : Int)) none).toList = _; rw [slicePick_upto']; rfl
  | some a, some b =>
    show (slicePick items (some (a : Int)) (some (b : Int)) none).toList = _
    rw [slicePick_plain]
    simp only [Option.elim, clipAt_nat, cut]
    rcases Nat.le_total a items.size with h | h
    · rw [Nat.min_eq_left h]
      rcases Nat.le_total b items.size with h' | h'
      · rw [Nat.min_eq_left h']
      · rw [Nat.min_eq_right h', List.take_of_length_le (by simp), List.take_of_length_le (by simp; omega)]
    · rw [Nat.min_eq_right h, List.drop_of_length_le (by simp), List.drop_of_length_le (by simpa using h)]; simp
theorem VReps.cut {h : Heap} {vs : List AV} {cs : List Value} (r : VReps h vs cs) (a b : Option Nat) : VReps h (cut vs a b) (cut cs a b) := by
  match a, b with
  | none, none => exact r
  | some a, none => exact r.drop a
  | none, some b => exact r.take b
  | some a, some b => exact (r.drop a).take _
theorem TE_cut {value : Expr} {lo hi : Option Expr} {p pos : Pos} {Q : AV → AHeap → Prop} (ht : ∀ o r, letTemporaryGo value o r = pure ())
    (h : TE C value ρ H fun v H₁ => TP C lo ρ H₁ fun a H₂ => TP C hi ρ H₂ fun b H₃ => ∃ l xs, v = .ref l ∧ H₃.items l = some xs ∧ xs.length ≤ sizeLine ∧ ∀ r, H₃ r = none → Q (.ref r) (H₃.upd r (.list (cut xs a b)))) :
    TE C (.Subscript value (.Slice lo hi none p) pos) ρ H Q := fun A env s ok R => by
  refine wpAny_Subscript_list_slice (W.mono (h A env s ok R) fun v s₁ ⟨t₁, av, H₁, h1, R₁, h2⟩ => W.mono (tp_ok ok R₁ h2) fun vl s₂ ⟨t₂, a, H₂, h3, R₂, h4⟩ => W.mono (tp_ok ok R₂ h4) fun vu s₃ ⟨t₃, b, H₃, h5, R₃, l, xs, e, hx, hsz, hq⟩ => ?_) ht
  subst e
  obtain rfl := h1
  obtain ⟨vs, hl, hr⟩ := (R₃.listAt hx).isList
  have e := hr.length
  simp at e
  refine ⟨l, vs, _, _, rfl, hl, by omega, h3, h5, ?_⟩
  have R₄ := R₃.to (tk := s₃.toks) (Ext.push s₃.heap { cls := .type "slice", data := .fields #[vl, vu, .none] })
  have hsz : ((s₃.heap.push { cls := .type "slice", data := .fields #[vl, vu, .none] })).objs.size = s₃.heap.objs.size + 1 := Heap.size_push ..
  have R₅ := R₄.alloc (tk := s₃.toks) (o := { cls := .type "list", data := .seq (slicePick vs (a.map Int.ofNat) (b.map Int.ofNat) none) }) (ao := .list (cut xs a b)) fun n => ⟨⟨_, 0, Heap.get?_push_size _ rfl, by
    rw [slicePick_cut]; exact ((hr.t (Ext.push _ _).t).t (Ext.push _ _).t).cut a b⟩, n⟩
  rw [hsz] at R₅
  exact ⟨((t₁.trans t₂).trans t₃).trans ((Ext.push _ _).t.trans (Ext.push _ _).t), .ref _, _, rfl, R₅, hq _ (R₄.unheld (Nat.le_of_eq hsz))⟩
end
end Mine
end
section
open PySem PySem.W PyProof.Rows PySem.SeqAt
set_option maxRecDepth 10000
set_option autoImplicit false
set_option linter.unusedVariables false
namespace Mine
section
variable {C : Cx} {A : Around} {env : Env} {ρ : Loc} {H : AHeap} {s : Shared}

theorem SRep.own {a : Addr} {xs : List AV} (R : SRep C env ρ H s) (e : H a = some (.list xs)) : C.hB a = none ∧ ∃ vs n, s.heap.get? a = some (listOf vs n) ∧ VReps s.heap xs vs.toList :=
  let ⟨⟨vs, n, g, r⟩, p⟩ := R.hp a _ e; ⟨p, vs, n, g, r⟩
theorem list_change {a : Addr} {xs ys : List AV} {vs : Array Value} {n : Nat} {f : Array Value → Array Value} {tk : Nat} (R : SRep C env ρ H s) (e : H a = some (.list xs)) (g : s.heap.get? a = some (listOf vs n))
    (h : ∀ h', TExt s.heap h' → VReps h' ys (f vs).toList) : TExt s.heap (s.heap.update a (Obj.mapSeq f)) ∧ SRep C env ρ (H.upd a (.list ys)) { s with heap := s.heap.update a (Obj.mapSeq f), toks := tk } := by
  have nt : ∀ (ws : Array Value) (k : Nat), listOf vs n ≠ tupObj ws k := fun ws k q => by
    have := congrArg Obj.cls q
    exact absurd (Value.type.inj this) (by decide)
  have sb : Heap.SameBut a s.heap (s.heap.update a (Obj.mapSeq f)) := Heap.SameBut.update ..
  refine ⟨TExt.but sb g nt, R.change (tk := tk) e g (R.own e).1 nt (fun v q => nomatch q) sb.extBut fun t => ⟨⟨_, _, get?_update_seq g f, h _ t⟩, (R.own e).1⟩⟩

theorem TC_append {a : Addr} {xs : List AV} {x : AV} {Q : AV → AHeap → Prop} (e : H a = some (.list xs)) (hsz : xs.length ≤ sizeLine) (h : Q .none (H.upd a (.list (xs ++ [x])))) : TC C (.builtin "list.append") [.ref a, x] H Q := fun A env ρ s vs ok R hv => by
  match vs, hv with
  | [va, vx], ⟨h1, h2, _⟩ =>
    obtain rfl := h1
    obtain ⟨hn, items, n, g, hr⟩ := R.own e
    have hl := hr.length
    simp at hl
    refine call_meets F.slot_list_append ⟨_, g, rfl⟩ F.entry_list_append (F.args_list_append_2 _ _) (PySem.list_append a items n vx (by omega)) ⟨g, ?_⟩
    obtain ⟨t, R'⟩ := list_change (f := fun y => y.push vx) (ys := xs ++ [x]) (tk := s.toks) R e g fun h' t => by
      rw [Array.toList_push]; exact (hr.t t).append ⟨h2.t t, trivial⟩
    exact ⟨t, .none, _, rfl, R', h⟩
theorem TC_reverse {a : Addr} {xs : List AV} {Q : AV → AHeap → Prop} (e : H a = some (.list xs)) (hsz : xs.length ≤ sizeLine) (h : Q .none (H.upd a (.list xs.reverse))) : TC C (.builtin "list.reverse") [.ref a] H Q := fun A env ρ s vs ok R hv => by
  match vs, hv with
  | [va], ⟨h1, _⟩ =>
    obtain rfl := h1
    obtain ⟨hn, items, n, g, hr⟩ := R.own e
    have hl := hr.length
    simp at hl
    refine call_meets F.slot_list_reverse ⟨_, g, rfl⟩ F.entry_list_reverse (F.args_list_reverse_1 _) (AutoSeq1.list_reverse_list_0 a items n (by omega)) ⟨g, ?_⟩
    obtain ⟨t, R'⟩ := list_change (f := fun y => y.reverse) (ys := xs.reverse) (tk := s.toks) R e g fun h' t => by
      rw [Array.toList_reverse]; exact (hr.t t).reverse
    exact ⟨t, .none, _, rfl, R', h⟩
theorem TC_pop {a : Addr} {xs : List AV} {x : AV} {Q : AV → AHeap → Prop} (e : H a = some (.list (xs ++ [x]))) (hsz : xs.length < sizeLine) (h : Q x (H.upd a (.list xs))) : TC C (.builtin "list.pop") [.ref a] H Q := fun A env ρ s vs ok R hv => by
  match vs, hv with
  | [va], ⟨h1, _⟩ =>
    obtain rfl := h1
    obtain ⟨hn, items, n, g, hr⟩ := R.own e
    have hl := hr.length
    simp at hl
    obtain ⟨y, hy, hxy⟩ := hr.get (i := xs.length) (v := x) (by simp)
    have hy' : items[items.size - 1]? = some y := by rw [← hl]; simpa using hy
    refine call_meets F.slot_list_pop ⟨_, g, rfl⟩ F.entry_list_pop (F.args_list_pop_1 _) (MeetsSeq.list_pop_last a items n y hy' (by omega)) ⟨g, ?_⟩
    obtain ⟨t, R'⟩ := list_change (f := fun zs => zs.eraseIdxIfInBounds (items.size - 1)) (ys := xs) (tk := s.toks) R e g fun h' t => by
      have e2 : (items.eraseIdxIfInBounds (items.size - 1)).toList = items.toList.take xs.length := by
        rw [Array.toList_eraseIdxIfInBounds, ← hl]
        simp only [Nat.add_sub_cancel]
        rw [List.eraseIdx_eq_take_drop_succ, List.drop_of_length_le (by simp; omega), List.append_nil]
      rw [e2]
      have := ((hr.t t).take xs.length)
      rwa [List.take_left] at this
    exact ⟨t, x, _, hxy.t t, R', h⟩
open Classical in
theorem TC_index {α : Type} [DecidableEq α] {f : α → AV} (F : Keyed f) {a : Addr} {xs : List α} {x : α} {j : Nat} {Q : AV → AHeap → Prop} (e : H.items a = some (xs.map f)) (hsz : xs.length ≤ sizeLine) (hj : xs[j]? = some x) (hno : ∀ m, m < j → xs[m]? ≠ some x) (h : Q (.int j) H) :
    TC C (.builtin "list.index") [.ref a, f x] H Q := fun A env ρ s vs ok R hv => by
  match vs, hv with
  | [va, vx], ⟨h1, h2, _⟩ =>
    obtain rfl := h1
    obtain ⟨items, n, g, hr⟩ := R.listAt e
    have hl := hr.length
    simp at hl
    have hjl : j < xs.length := (List.getElem?_eq_some_iff.mp hj).1
    have at' : ∀ m (hm : m < items.size), decide (VRep s.heap (f x) items[m]) = decide (xs[m]? = some x) := fun m hm => by
      obtain ⟨y, hy, hr'⟩ := hr.at hm
      rw [hy, decide_eq_decide]
      exact ⟨fun q => congrArg some (F.inj _ _ _ _ hr' q), fun q => (Option.some.inj q) ▸ hr'⟩
    refine call_meets PySem.F.slot_list_index ⟨_, g, rfl⟩ PySem.F.entry_list_index (PySem.F.args_list_index_2 _ _) (list_indexAt a items n none #[] vx (fun v => decide (VRep s.heap (f x) v)) j (by omega) (by have : sizeLine = 2 ^ 24 := rfl; omega) ?_ ?_) ⟨g, ?_, ?_⟩
    · rw [at' j (by omega), hj]; simp
    · intro m hm h1
      rw [at' m hm, decide_eq_false (hno m h1)]
    · exact eqAt_items F (A := A.in1) (by have := ok.units; show A.units + 1 < cLine; omega) h2 hr
    · exact ⟨TExt.refl _, .int j, H, ⟨_, rfl⟩, R.tok, h⟩

/-- a[k] = v -/
def TSet (C : Cx) (a k v : AV) (H : AHeap) (Q : AHeap → Prop) : Prop :=
  ∀ A env ρ s va vk vv, AOk C A env → SRep C env ρ H s → VRep s.heap a va → VRep s.heap k vk → VRep s.heap v vv → W C A (setItem va vk vv) (fun _ s' => TExt s.heap s'.heap ∧ ∃ H', SRep C env ρ H' s' ∧ Q H') s
theorem TSet_list {a : Addr} {xs : List AV} {k : Int} {v : AV} {Q : AHeap → Prop} (e : H a = some (.list xs)) (h0 : 0 ≤ k) (hk : k.toNat < xs.length) (hsz : xs.length ≤ sizeLine) (h : Q (H.upd a (.list (xs.set k.toNat v)))) :
    TSet C (.ref a) (.int k) v H Q := fun A env ρ s va vk vv ok R h1 h2 h3 => by
  obtain rfl := h1
  obtain ⟨t, rfl⟩ := h2
  obtain ⟨hn, items, n, ho, hr⟩ := R.own e
  have hl' := hr.length
  simp at hl'
  have hl : s.heap.IsList a items := ⟨_, ho, rfl, n, rfl⟩
  have : sizeLine = 2 ^ 24 := rfl
  have hfit : k < 2 ^ 63 := by omega
  unfold setItem
  try with_reducible refine wpAny_holding ?_
  first | refine wpAny_bind (wpAny_pure ?_) | skip
  refine wpAny_bind (wpAny_sequenceKey hl.typeIs (by decide) ?_)
  refine wpAny_bind (wpAny_callSpecial?_slot (name := Str.ofString "__setitem__") hl.typeIs slot_list_setitem
    (wpAny_call_entry slot_list_setitem hl.typeIs entry_list_setitem ?_ (args_list_setitem _ _ _)))
  show wpAny _ _ (Builtin.List.listSubscript? (.int k t) >>= _) _ _ s
  refine wpAny_bind (wpAny_listSubscript_int (fitsIndex_of h0 hfit) ?_)
  clear hfit
  obtain ⟨j, rfl⟩ := Int.eq_ofNat_of_zero_le h0
  have hj : j < items.size := by omega
  have hx' : items[j]? = some items[j] := Array.getElem?_eq_getElem hj
  show wpAny _ _ ((seqItemAt a j >>= fun r => pure (r.map (j, ·))) >>= _) _ _ s
  refine wpAny_bind (wpAny_bind (wpAny_seqItemAt ho rfl (wpAny_pure ?_)))
  rw [hx']
  show wpAny _ _ (setSeqItemAt a j vv >>= _) _ _ s
  refine wpAny_bind (wpAny_setSeqItemAt ho rfl ?_)
  obtain ⟨t', R'⟩ := list_change (f := fun zs => zs.setIfInBounds j vv) (ys := xs.set j v) (tk := s.toks) R e ho fun h' t => by
    rw [Array.toList_setIfInBounds]; exact (hr.t t).set (h3.t t) j
  have fin : TExt s.heap (s.heap.update a (Obj.mapSeq fun zs => zs.setIfInBounds j vv)) ∧ ∃ H', SRep C env ρ H' { s with heap := s.heap.update a (Obj.mapSeq fun zs => zs.setIfInBounds j vv), toks := s.toks } ∧ Q H' := ⟨t', _, R', h⟩
  first
    | exact wpAny_bind (wpAny_pure (wpAny_pure ⟨.none, rfl, wpAny_pure fin⟩))
    | exact wpAny_pure ⟨.none, rfl, wpAny_pure fin⟩

/-! truth -/
theorem TB_list {a : Addr} {xs : List AV} {Q : Bool → AHeap → Prop} (e : H.items a = some xs) (hsz : xs.length ≤ sizeLine) (h : Q (!xs.isEmpty) H) : TB C (.ref a) H Q := fun A env ρ s va ok R hv => by
  obtain rfl := hv
  obtain ⟨vs, hl, hr⟩ := (R.listAt e).isList
  have hle := hr.length
  have : sizeLine = 2 ^ 24 := rfl
  simp at hle
  refine wpAny_truthy_list hl (by omega) ?_
  have e2 : vs.isEmpty = xs.isEmpty := by rw [Bool.eq_iff_iff, Array.isEmpty_iff_size_eq_zero, List.isEmpty_iff_length_eq_zero, hle]
  rw [e2]
  exact ⟨TExt.refl _, H, R.tok, h⟩
theorem TB_int {i : Int} {Q : Bool → AHeap → Prop} (h : Q (i != 0) H) : TB C (.int i) H Q := fun A env ρ s va ok R hv => by
  obtain ⟨t, rfl⟩ := hv
  exact PyProof.Rows.truthy_int ⟨TExt.refl _, H, R, h⟩
theorem TB_bool {b : Bool} {Q : Bool → AHeap → Prop} (h : Q b H) : TB C (.bool b) H Q := fun A env ρ s va ok R hv => by
  obtain rfl := hv
  exact wpAny_truthy_bool ⟨TExt.refl _, H, R, h⟩

/-! list(..), range(n), isinstance(i, bool) -/
theorem TC_list {a : Addr} {xs : List AV} {Q : AV → AHeap → Prop} (e : H.items a = some xs) (hsz : xs.length ≤ sizeLine) (h : ∀ r, H r = none → Q (.ref r) (H.upd r (.list xs))) : TC C (.type "list") [.ref a] H Q := fun A env ρ s vs ok R hv => by
  match vs, hv with
  | [va], ⟨h1, _⟩ =>
    obtain rfl := h1
    obtain ⟨items, n, g, hr⟩ := R.listAt e
    have hle := hr.length
    simp at hle
    refine call_list_seq a (.inl rfl) g rfl rfl (fun h' c' hk hn => ?_) (by omega)
    have x : Ext s.heap h' := hk
    exact ⟨x.t, .ref _, _, rfl, (R.to (tk := s.toks) x).add (o := .list xs) ⟨⟨_, _, hn, hr.t x.t⟩, R.fresh (Nat.le_refl _)⟩ (Nat.ne_of_gt R.ltL), h _ (R.unheld (Nat.le_refl _))⟩
theorem rng_size (n : Nat) : Builtin.Range.rangeSize 0 (n : Int) 1 = (n : Int) := by unfold Builtin.Range.rangeSize; split <;> split <;> omega
theorem rng_small (n : Nat) (hn : n < 2 ^ 31) : Builtin.Range.small 0 (n : Int) 1 = true := by
  unfold Builtin.Range.small
  rw [rng_size]
  have hf : ∀ k : Int, 0 ≤ k → k < 2 ^ 31 → Builtin.Range.rangeFitsLong k = true := fun k h1 h2 => by unfold Builtin.Range.rangeFitsLong; simp; omega
  rw [hf 0 (by omega) (by omega), hf n (by omega) (by omega), hf 1 (by omega) (by omega), if_pos (by omega), hf _ (by omega) (by omega)]; simp
theorem VReps.of_get {h : Heap} : ∀ {vs : List AV} {cs : List Value}, vs.length = cs.length → (∀ (i : Nat) v c, vs[i]? = some v → cs[i]? = some c → VRep h v c) → VReps h vs cs
  | [], [], _, _ => trivial
  | v :: vs, c :: cs, hl, hg => ⟨hg 0 v c rfl rfl, VReps.of_get (by simpa using hl) fun i v' c' h1 h2 => hg (i + 1) v' c' (by simpa using h1) (by simpa using h2)⟩
  | [], _ :: _, hl, _ => by simp at hl
  | _ :: _, [], hl, _ => by simp at hl
theorem TC_list_rng {r : Addr} {n : Nat} {Q : AV → AHeap → Prop} (e : H r = some (.rng n)) (hn : n ≤ 2 ^ 24) (h : ∀ a, H a = none → Q (.ref a) (H.upd a (.list ((upto n).map .int)))) : TC C (.type "list") [.ref r] H Q := fun A env ρ s vs ok R hv => by
  match vs, hv with
  | [va], ⟨h1, _⟩ =>
    obtain rfl := h1
    obtain ⟨t, u, v, g⟩ := (R.hp r _ e).1
    refine call_list_range ok.handled (n := n) g (rng_small n (by omega)) (rng_size n) hn fun h' tk acc c' hk hnew hit => ?_
    have x : Ext s.heap h' := hk
    refine ⟨x.t, .ref _, _, rfl, (R.to (tk := tk) x).add (o := .list ((upto n).map .int)) ⟨⟨_, _, hnew, ?_⟩, R.fresh (Nat.le_refl _)⟩ (Nat.ne_of_gt R.ltL), h _ (R.unheld (Nat.le_refl _))⟩
    refine VReps.of_get (by simp [upto_length, hit.1]) fun i w c h1 h2 => ?_
    obtain ⟨t, rfl⟩ := hit.2 i c (by simpa using h2)
    have hi : i < n := by
      have := (List.getElem?_eq_some_iff.mp h1).1
      simpa [upto_length] using this
    simp [upto_get hi] at h1
    subst h1
    exact ⟨t, by rw [show (0 : Int) + i * 1 = i by omega]⟩
theorem TC_range {n : Int} {Q : AV → AHeap → Prop} (h : ∀ a, H a = none → Q (.ref a) (H.upd a (.rng n))) : TC C (.type "range") [.int n] H Q := fun A env ρ s vs ok R hv => by
  match vs, hv with
  | [va], ⟨h1, _⟩ =>
    obtain ⟨t, rfl⟩ := h1
    refine call_range_1 ⟨(Ext.push _ _).t, .ref _, _, rfl, R.alloc (ao := .rng n) fun hn => ⟨⟨_, _, _, Heap.get?_push_size _ rfl⟩, hn⟩, h _ (R.unheld (Nat.le_refl _))⟩
theorem TC_isbool {i : Int} {Q : AV → AHeap → Prop} (h : Q (.bool false) H) : TC C (.builtin "isinstance") [.int i, .val (.type "bool")] H Q := fun A env ρ s vs ok R hv => by
  match vs, hv with
  | [va, vb], ⟨⟨t, h1⟩, h2, _⟩ =>
    subst h1
    obtain rfl := h2
    exact call_isinstance (isinstance_false_int (by decide +kernel) PySem.F.isi_meta_bool PySem.F.sub_int_bool) ⟨TExt.refl _, .bool false, H, rfl, R.tok, h⟩
/-- sorted(ints) -/
theorem TC_sorted {a : Addr} {ns : List Int} {Q : AV → AHeap → Prop} (e : H.items a = some (ns.map .int)) (h64 : ns.length < 64)
    (h : ∀ r (ms : List Int), H r = none → ms.Perm ns → ms.Pairwise (· ≤ ·) → Q (.ref r) (H.upd r (.list (ms.map .int)))) : TC C (.builtin "sorted") [.ref a] H Q := fun A env ρ s vs ok R hv => by
  match vs, hv with
  | [va], ⟨h1, _⟩ =>
    obtain rfl := h1
    obtain ⟨items, hl, hr⟩ := (R.listAt e).isList
    have hI := VReps.ints.mp hr
    have hle := hr.length
    refine sorted_ints (vs := items.toList) (by simpa using hl) hI (by simp at hle ⊢; omega) fun out ns' hI' hp hs => ?_
    have x : Ext s.heap (sortedAll s.heap items.toList out) := fun b o e => sortedAll_old e
    have R' : SRep C env ρ H { s with heap := sortedAll s.heap items.toList out, toks := s.toks } := R.to x
    obtain ⟨e', g'⟩ := sortedAll_at s.heap items.toList out
    exact ⟨x.t, .ref _, _, rfl, R'.add (o := .list (ns'.map .int)) ⟨⟨_, _, g', by simpa using VReps.ints.mpr hI'⟩, R.fresh (Nat.le_succ _)⟩ (Nat.ne_of_gt (Nat.lt_succ_of_lt R.ltL)), h _ _ (R.unheld (Nat.le_succ _)) hp hs⟩
end
end Mine
end
section
open PySem PySem.W PyProof.Rows PySem.SeqAt
set_option maxRecDepth 10000
set_option autoImplicit false
set_option linter.unusedVariables false
namespace Mine

/-! the sorted lists of ints below 5 -/
def subs : List Int → List (List Int)
  | [] => [[]]
  | x :: xs => subs xs ++ (subs xs).map (x :: ·)
theorem mem_subs {l xs : List Int} (h : l.Sublist xs) : l ∈ subs xs := by
  induction h with
  | slnil => simp [subs]
  | cons a _ ih => simp [subs, ih]
  | cons_cons a _ ih => simp [subs, ih]
abbrev five : List Int := [0, 1, 2, 3, 4]
def from' (a : Int) : Nat → List Int
  | 0 => []
  | n + 1 => a :: from' (a + 1) n
theorem sorted_sub : ∀ (n : Nat) (a : Int) (l : List Int), l.Pairwise (· < ·) → (∀ x ∈ l, a ≤ x ∧ x < a + n) → l.Sublist (from' a n)
  | 0, a, l, hp, hm => by
    cases l with
    | nil => exact .slnil
    | cons x xs => have := hm x (by simp); omega
  | n + 1, a, l, hp, hm => by
    cases l with
    | nil => exact List.nil_sublist _
    | cons x xs =>
      obtain ⟨h1, h2⟩ := List.pairwise_cons.mp hp
      by_cases q : x = a
      · subst q
        exact .cons_cons _ (sorted_sub n (x + 1) xs h2 fun y hy => by have := h1 y hy; have := hm y (by simp [hy]); omega)
      · exact .cons _ (sorted_sub n (a + 1) (x :: xs) hp fun y hy => by
          have hx := hm x (by simp)
          have hy' := hm y hy
          rcases List.mem_cons.mp hy with rfl | hy
          · omega
          · have := h1 y hy; omega)
theorem sub5 {l : List Int} (hp : l.Pairwise (· < ·)) (hm : ∀ x ∈ l, 0 ≤ x ∧ x < 5) : l ∈ subs five :=
  mem_subs (show l.Sublist (from' 0 5) from sorted_sub 5 0 l hp fun x hx => by have := hm x hx; omega)

/-- where k goes into l -/
def spot (l : List Int) (k : Int) : Nat := SetTable.below (l.map Int.toNat).toArray k.toNat
def put5 (l : List Int) (k : Int) : List Int := l.take (spot l k) ++ k :: l.drop (spot l k)
def cfgP (led : Bool) (l : List Int) (k : Int) : SetTable := { cfg led l with place := ((put5 l k).map Int.toNat).toArray }

set_option maxHeartbeats 4000000 in
theorem cfg_add : ∀ led ∈ [true, false], ∀ l ∈ subs five, ∀ k ∈ five, k ∉ l →
    (cfg led l).freeSlot k = some (k.toNat, false) ∧ (cfg led l).put k.toNat = (cfgP led l k, spot l k) ∧ spot l k ≤ l.length ∧ (put5 l k).Pairwise (· < ·) ∧ (∀ x ∈ put5 l k, 0 ≤ x ∧ x < 5) ∧ (put5 l k).length = l.length + 1 ∧ (cfgP led l k).fits (l.length + 1) = true ∧
    (if l.length < 4 then cfgP led l k = cfg led (put5 l k) ∧ (cfgP led l k).tooFull = false else put5 l k = five ∧ (cfgP led l k).tooFull = true ∧ cfgP led l k = { cfg led [] with place := #[0, 1, 2, 3, 4] }) := by decide +kernel
theorem cfg_relay : ∀ led ∈ [true, false], SetTable.relaid { cfg led [] with place := #[0, 1, 2, 3, 4] } #[0, 1, 2, 3, 4] (SetTable.grown 5) = some (cfg led five, #[0, 1, 2, 3, 4]) := by decide +kernel
theorem hash5 {k : Int} (h : 0 ≤ k ∧ k < 5) : hashInt k = k := by
  have : k = 0 ∨ k = 1 ∨ k = 2 ∨ k = 3 ∨ k = 4 := by omega
  rcases this with rfl | rfl | rfl | rfl | rfl <;> decide
theorem mem5 {k : Int} (h : 0 ≤ k ∧ k < 5) : k ∈ five := by
  have : k = 0 ∨ k = 1 ∨ k = 2 ∨ k = 3 ∨ k = 4 := by omega
  rcases this with rfl | rfl | rfl | rfl | rfl <;> decide

/-! entries -/
theorem IEnts.length : ∀ {es : List (Int × Value)} {l : List Int}, IEnts es l → es.length = l.length
  | [], [], _ => rfl
  | _ :: _, _ :: _, x => congrArg (· + 1) x.2.length
  | [], _ :: _, x => x.elim
  | _ :: _, [], x => x.elim
theorem IEnts.hashes : ∀ {es : List (Int × Value)} {l : List Int}, IEnts es l → es.map (·.1) = l.map hashInt
  | [], [], _ => rfl
  | _ :: _, _ :: _, ⟨⟨t, e⟩, x⟩ => by simp [e, x.hashes]
  | [], _ :: _, x => x.elim
  | _ :: _, [], x => x.elim
theorem IEnts.append : ∀ {es : List (Int × Value)} {l : List Int} {fs : List (Int × Value)} {m : List Int}, IEnts es l → IEnts fs m → IEnts (es ++ fs) (l ++ m)
  | [], [], _, _, _, y => y
  | _ :: _, _ :: _, _, _, x, y => ⟨x.1, IEnts.append x.2 y⟩
  | [], _ :: _, _, _, x, _ => x.elim
  | _ :: _, [], _, _, x, _ => x.elim
theorem IEnts.take : ∀ (n : Nat) {es : List (Int × Value)} {l : List Int}, IEnts es l → IEnts (es.take n) (l.take n)
  | 0, _, _, _ => trivial
  | _ + 1, [], [], _ => trivial
  | n + 1, _ :: _, _ :: _, x => ⟨x.1, IEnts.take n x.2⟩
  | _ + 1, [], _ :: _, x => x.elim
  | _ + 1, _ :: _, [], x => x.elim
theorem IEnts.drop : ∀ (n : Nat) {es : List (Int × Value)} {l : List Int}, IEnts es l → IEnts (es.drop n) (l.drop n)
  | 0, _, _, x => x
  | _ + 1, [], [], _ => trivial
  | n + 1, _ :: _, _ :: _, x => IEnts.drop n x.2
  | _ + 1, [], _ :: _, x => x.elim
  | _ + 1, _ :: _, [], x => x.elim
theorem IEnts.values {h : Heap} : ∀ {es : List (Int × Value)} {l : List Int}, IEnts es l → VReps h (l.map .int) (es.map (·.2))
  | [], [], _ => trivial
  | _ :: _, _ :: _, ⟨⟨t, e⟩, x⟩ => ⟨⟨t, by rw [e]⟩, x.values⟩
  | [], _ :: _, x => x.elim
  | _ :: _, [], x => x.elim
theorem int_is (prog : Program) (w : World) (k x : Int) (t : Tok) : (intKind prog w).is k (.int x t) = (x == k) := by
  rw [Bool.eq_iff_iff]
  exact ⟨fun h => by obtain ⟨u, e⟩ := Value.isInt_shape (show Value.isInt k (.int x t) = true from h); cases e; simp, fun h => by have e := eq_of_beq h; subst e; exact intKind_is _ _ _ _⟩
theorem IEnts.find {prog : Program} {w : World} (k : Int) : ∀ {es : List (Int × Value)} {l : List Int}, IEnts es l → es.findIdx? (fun e => (intKind prog w).is k e.2) = l.findIdx? (fun x => x == k)
  | [], [], _ => rfl
  | _ :: _, _ :: _, ⟨⟨t, e⟩, x⟩ => by
    subst e
    rw [List.findIdx?_cons, List.findIdx?_cons, x.find k, int_is]
  | [], _ :: _, x => x.elim
  | _ :: _, [], x => x.elim
theorem IEnts.elems {prog : Program} {w : World} : ∀ {es : List (Int × Value)} {l : List Int}, IEnts es l → ElemsOf (intKind prog w) es
  | [], [], _ => fun e he => nomatch he
  | _ :: _, x :: _, ⟨⟨t, e⟩, r⟩ => fun f hf => by
    rcases List.mem_cons.mp hf with rfl | hf
    · subst e; exact ⟨⟨x, intKind_is _ _ _ _, rfl⟩, rfl⟩
    · exact r.elems f hf
  | [], _ :: _, x => x.elim
  | _ :: _, [], x => x.elim
theorem hashes5 {l : List Int} (h : ∀ x ∈ l, 0 ≤ x ∧ x < 5) : l.map hashInt = l := by
  induction l with
  | nil => rfl
  | cons x xs ih => rw [List.map_cons, hash5 (h x (by simp)), ih fun y hy => h y (by simp [hy])]

/-- the ints of a set -/
def AObj.ints? : AObj → Option (List Int)
  | .wset S | .fset S | .iset S | .rset S => some S
  | _ => none
def AHeap.ints (H : AHeap) (a : Addr) : Option (List Int) := (H a).bind AObj.ints?
theorem cfg_fits {led : Bool} {l : List Int} (hp : l.Pairwise (· < ·)) (hm : ∀ x ∈ l, 0 ≤ x ∧ x < 5) : (cfg led l).fits l.length = true := by
  have : ∀ led ∈ [true, false], ∀ l ∈ subs five, (cfg led l).fits l.length = true := by decide +kernel
  exact this led (by cases led <;> simp) l (sub5 hp hm)
theorem ISet.weak {w : World} {h : Heap} {a : Addr} {l : List Int} (x : ISet w h a l) : WSet h a l := by
  obtain ⟨es, ep, g, r, hp, hm⟩ := x
  have hl := r.length
  rw [Array.length_toList] at hl
  exact ⟨es, ep, _, g, r, hp, hm, by rw [hl]; exact cfg_fits hp hm⟩

section
variable {C : Cx} {A : Around} {env : Env} {ρ : Loc} {H : AHeap} {s : Shared} {E : Value → Shared → Prop}
theorem SRep.intsAt {a : Addr} {S : List Int} (R : SRep C env ρ H s) (e : H.ints a = some S) : ∃ l, WSet s.heap a l ∧ l.Perm S := by
  unfold AHeap.ints at e
  cases q : H a with
  | none => rw [q] at e; cases e
  | some o =>
    rw [q] at e
    have y := R.hp a o q
    cases o with
    | wset T => cases e; exact y.1
    | fset T => cases e; exact y.1
    | iset T => cases e; obtain ⟨l, h1, h2⟩ := y.1; exact ⟨l, h1.weak, h2⟩
    | rset T => cases e; obtain ⟨l, h1, h2⟩ := y.1; exact ⟨l, h1.weak, h2⟩
    | _ => cases e
theorem WSet.setOf {prog : Program} {w : World} {h : Heap} {a : Addr} {l : List Int} (x : WSet h a l) : h.SetOf (intKind prog w) a (fun k => decide (k ∈ l)) l.length := by
  obtain ⟨es, ep, t, g, r, hp, hm, hf⟩ := x
  have hl := r.length
  rw [Array.length_toList] at hl
  have h5 : l.length ≤ 5 := by
    have : ∀ l ∈ subs five, l.length ≤ 5 := by decide +kernel
    exact this l (sub5 hp hm)
  refine ⟨_, es, ep, t, g, ⟨rfl, rfl, rfl⟩, rfl, r.elems, fun k => ?_, by rw [hl]; have : scanBound = 4096 := rfl; omega, hf, hl⟩
  rw [decide_eq_true_eq]
  have key : ∀ {es : List (Int × Value)} {l : List Int}, IEnts es l → (k ∈ l ↔ ∃ e ∈ es, (intKind prog w).is k e.2 = true) := by
    intro es l r
    induction l generalizing es with
    | nil => cases es with
      | nil => simp
      | cons _ _ => exact r.elim
    | cons x xs ih => cases es with
      | nil => exact r.elim
      | cons e es =>
        obtain ⟨⟨t, he⟩, r'⟩ := r
        rw [List.mem_cons, ih r']
        constructor
        · rintro (rfl | ⟨f, hf, h⟩)
          · exact ⟨e, by simp, by rw [he]; exact intKind_is _ _ _ _⟩
          · exact ⟨f, by simp [hf], h⟩
        · rintro ⟨f, hf, h⟩
          rcases List.mem_cons.mp hf with rfl | hf
          · left; rw [he, int_is] at h; exact (eq_of_beq h).symm
          · exact .inr ⟨f, hf, h⟩
  exact key r

/-- k in S -/
theorem T2_inS {a : Addr} {k : Int} {S : List Int} {Q : AV → AHeap → Prop} (e : H.ints a = some S) (h : Q (.bool (decide (k ∈ S))) H) : T2 C (compareOp .In) (.int k) (.ref a) H Q := fun A env ρ s va vb ok R h1 h2 => by
  obtain ⟨t, rfl⟩ := h1
  obtain rfl := h2
  obtain ⟨l, hw, hp⟩ := R.intsAt e
  have hx : decide (k ∈ l) = decide (k ∈ S) := by rw [decide_eq_decide]; exact hp.mem_iff
  exact wpAny_inSet_of (knd := intKind C.prog C.w) (intKind_is _ _ _ _) rfl hw.setOf ⟨TExt.refl _, .bool _, H, by rw [hx]; rfl, R.tok, h⟩
end
end Mine
end
section
open PySem PySem.W PyProof.Rows PySem.SeqAt
set_option maxRecDepth 10000
set_option autoImplicit false
set_option linter.unusedVariables false
namespace Mine
/-- a set as it is put back -/
theorem put_set {h : Heap} {a : Addr} {es es' : Array (Int × Value)} {ep : Nat} {t t' : SetTable} (g : h.get? a = some (setObj es ep t)) :
    (h.update a (Obj.putSet es' t')).get? a = some (setObj es' (ep + 1) t') := by
  have := Heap.get?_update_self (Obj.putSet es' t') g (by rfl)
  exact this
def insI (S : List Int) (k : Int) : List Int := if k ∈ S then S else S ++ [k]
section
variable {C : Cx} {A : Around} {env : Env} {ρ : Loc} {H : AHeap} {s : Shared}

theorem set_not_tup {es : Array (Int × Value)} {ep : Nat} {t : SetTable} : ∀ vs n, setObj es ep t ≠ tupObj vs n := fun vs n e => absurd (Value.type.inj (congrArg Obj.cls e)) (by decide)

theorem perm_put {l S : List Int} {k : Int} (hl : l.Perm S) (n : Nat) (hk : k ∉ S) : (l.take n ++ k :: l.drop n).Perm (insI S k) := by
  unfold insI
  rw [if_neg hk]
  refine List.perm_middle.trans ?_
  rw [List.take_append_drop]
  exact (hl.cons k).trans (List.perm_append_comm (l₁ := [k]))

/-- what follows the new layout: the set is put back, and once more where it is too full -/
theorem add_set {a : Addr} {S : List Int} {k : Int} {c : Value} {Q : Bool → Shared → Prop} (R : SRep C env ρ H s) (e : H a = some (.iset S)) (hk : 0 ≤ k ∧ k < 5) (hc : ∃ t, c = .int k t)
    (h₀ : ∀ s', TExt s.heap s'.heap → SRep C env ρ (H.upd a (.iset (insI S k))) s' → Q (!decide (k ∈ S)) s') :
    W C A (setAdd a c) Q s := by
  have h : ∀ h' tk, TExt s.heap h' → SRep C env ρ (H.upd a (.iset (insI S k))) { s with heap := h', toks := tk } → Q (!decide (k ∈ S)) { s with heap := h', toks := tk } := fun h' tk => h₀ { s with heap := h', toks := tk }
  obtain ⟨t, rfl⟩ := hc
  obtain ⟨⟨l, ⟨es, ep, g, r, hp, hm⟩, hperm⟩, hn⟩ := R.hp a _ e
  have hlen := r.length
  rw [Array.length_toList] at hlen
  have hsub := sub5 hp hm
  have hfit : (cfg (!byText C.w) l).fits es.size = true := by rw [hlen]; exact cfg_fits hp hm
  have hel : ElemsOf (intKind C.prog C.w) es.toList := r.elems
  have h5 : l.length ≤ 5 := by
    have : ∀ l ∈ subs five, l.length ≤ 5 := by decide +kernel
    exact this l hsub
  have hb : es.size < scanBound := by have : scanBound = 4096 := rfl; omega
  unfold setAdd
  refine wpAny_holding ?_
  refine wpAny_bind ((intKind C.prog C.w).pyHash (intKind_is C.prog C.w k t) ?_)
  have R₀ := R.tok (tk := s.toks + 1)
  unfold setAddHashed setAddHashedIn
  refine wpAny_holding (wpAny_bind (wpAny_setState_of g rfl hfit ?_))
  dsimp only
  rw [byScan_of (knd := intKind C.prog C.w) rfl hb hel]
  simp only [↓reduceIte]
  unfold setAddByScan
  refine wpAny_bind ?_
  refine wpAny_bind (wpAny_rule ?_)
  refine wpAny_bind (wpAny_setScan_of (knd := intKind C.prog C.w) (intKind_is _ _ k t) g rfl hfit hel ?_)
  rw [r.find]
  by_cases hkl : k ∈ l
  · have hkS : k ∈ S := hperm.mem_iff.mp hkl
    cases hr : List.findIdx? (fun x => x == k) l with
    | none => exact absurd (List.findIdx?_eq_none_iff.mp hr k hkl) (by simp)
    | some j =>
      dsimp only
      refine wpAny_pure (wpAny_pure ?_)
      have := h s.heap (s.toks + 1) (TExt.refl _) ((R₀.add (o := .iset (insI S k)) ⟨⟨l, ⟨es, ep, g, r, hp, hm⟩, by unfold insI; rw [if_pos hkS]; exact hperm⟩, hn⟩ (fun q => by have := R.sep; rw [← q, e] at this; cases this)))
      rw [decide_eq_true hkS] at this
      exact this
  · have hkS : k ∉ S := fun q => hkl (hperm.mem_iff.mpr q)
    have hr : List.findIdx? (fun x => x == k) l = none := List.findIdx?_eq_none_iff.mpr fun x hx => by
      have : x ≠ k := fun q => hkl (q ▸ hx)
      simpa using this
    rw [hr]
    dsimp only
    obtain ⟨c1, c2, c3, c4, c5, c6, c7, c8⟩ := cfg_add (!byText C.w) (by cases byText C.w <;> simp) l hsub k (mem5 hk) hkl
    have hL : layNew (cfg (!byText C.w) l) es ((intKind C.prog C.w).hash k) (.int k t) = (SetTable.insertAt es (spot l k) (k, .int k t), cfgP (!byText C.w) l k, false, false) := by
      have e0 : (intKind C.prog C.w).hash k = k := hash5 hk
      have e1 : (SetTable.insertAt es (spot l k) (k, Value.int k t)).size = l.length + 1 := by
        have := (SetTable.insertAt_perm es (spot l k) (k, Value.int k t)).length_eq
        simp only [Array.length_toList, Array.size_push] at this
        omega
      unfold layNew
      rw [e0, c1]
      simp only [c2, e1]
      unfold SetTable.orStandIn
      rw [c7]
      simp
    rw [hL]
    dsimp only
    refine wpAny_bind (wpAny_pure ?_)
    have hpl : (cfgP (!byText C.w) l k).plain = true := rfl
    have hpk : plainKind (Value.int k t) = true := rfl
    simp only [hpl, if_true, hashByValue_scannable 8 (show (Value.int k t).scannable = true from rfl), hpk]
    refine wpAny_bind (wpAny_pure ?_)
    simp only [if_true, Bool.not_false, Bool.true_and]
    have e1 : (SetTable.insertAt es (spot l k) (k, Value.int k t)).size = l.length + 1 := by
      have := (SetTable.insertAt_perm es (spot l k) (k, Value.int k t)).length_eq
      simp only [Array.length_toList, Array.size_push] at this
      omega
    have r1 : IEnts (SetTable.insertAt es (spot l k) (k, Value.int k t)).toList (put5 l k) := by
      rw [SetTable.toList_insertAt]
      exact (r.take _).append ⟨⟨t, by rw [hash5 hk]⟩, r.drop _⟩
    have hpp : (put5 l k).Perm (insI S k) := perm_put hperm _ hkS
    refine wpAny_bind (wpAny_storeSet_of g rfl ?_ (by rw [e1]; have : sizeLine = 2 ^ 24 := rfl; omega))
    have g1 := put_set (es' := SetTable.insertAt es (spot l k) (k, Value.int k t)) (t' := cfgP (!byText C.w) l k) g
    have sb1 := Heap.SameBut.update s.heap a (Obj.putSet (SetTable.insertAt es (spot l k) (k, Value.int k t)) (cfgP (!byText C.w) l k))
    have fin : ∀ h', Heap.SameBut a s.heap h' → (∃ es' ep', h'.get? a = some (setObj es' ep' (cfg (!byText C.w) (put5 l k))) ∧ IEnts es'.toList (put5 l k)) → Q true { s with heap := h', toks := s.toks + 1 } := fun h' sb ⟨es', ep', g', r'⟩ => by
      have R' := R.change (tk := s.toks + 1) (o' := .iset (insI S k)) e g hn set_not_tup (fun v q => nomatch q) sb.extBut fun t => ⟨⟨put5 l k, ⟨es', ep', g', r', c4, c5⟩, hpp⟩, hn⟩
      have := h h' (s.toks + 1) (TExt.but sb g set_not_tup) R'
      rw [decide_eq_false hkS] at this
      exact this
    by_cases hlt : l.length < 4
    · rw [if_pos hlt] at c8
      rw [c8.2]
      simp only [Bool.false_eq_true, if_false]
      refine wpAny_pure ?_
      dsimp only
      exact wpAny_pure (fin _ sb1 ⟨_, ep + 1, by rw [← c8.1]; exact g1, r1⟩)
    · rw [if_neg hlt] at c8
      obtain ⟨c8, c9, c10⟩ := c8
      rw [c9]
      simp only [if_true]
      have hh : (SetTable.insertAt es (spot l k) (k, Value.int k t)).map (·.1) = #[0, 1, 2, 3, 4] := by
        apply Array.toList_inj.mp
        rw [Array.toList_map, r1.hashes, c8]; decide
      have e5 : (SetTable.insertAt es (spot l k) (k, Value.int k t)).size = 5 := by
        have := r1.length
        rw [Array.length_toList, c8] at this; exact this
      have hrel : relayAll (cfgP (!byText C.w) l k) (SetTable.insertAt es (spot l k) (k, Value.int k t)) (SetTable.grown (SetTable.insertAt es (spot l k) (k, Value.int k t)).size) = (SetTable.insertAt es (spot l k) (k, Value.int k t), cfg (!byText C.w) five, false) := by
        unfold relayAll
        rw [hh, e5, c10, cfg_relay (!byText C.w) (by cases byText C.w <;> simp)]
        have ho : Array.filterMap (fun x => (SetTable.insertAt es (spot l k) (k, Value.int k t))[x]?) #[0, 1, 2, 3, 4] = SetTable.insertAt es (spot l k) (k, Value.int k t) := by
          apply Array.toList_inj.mp
          rw [Array.toList_filterMap]
          have := filterMap_getElem?_range (SetTable.insertAt es (spot l k) (k, Value.int k t))
          rw [e5] at this
          exact this
        have hf5 : (cfg (!byText C.w) five).fits 5 = true := by cases byText C.w <;> decide
        simp only [ho, e5, hf5]
        rfl
      rw [hrel]
      dsimp only
      refine wpAny_bind ?_
      refine (wpAny_pure ?_ : wpAny (model C.prog C.w) A (pure ()) _ _ _)
      refine wpAny_bind (wpAny_storeSet_of g1 rfl ?_ (by rw [e1]; have : sizeLine = 2 ^ 24 := rfl; omega))
      have g2 := put_set (es' := SetTable.insertAt es (spot l k) (k, Value.int k t)) (t' := cfg (!byText C.w) five) g1
      refine wpAny_pure ?_
      dsimp only
      exact wpAny_pure (fin _ (sb1.trans (Heap.SameBut.update _ a _)) ⟨_, ep + 1 + 1, by rw [c8]; exact g2, r1⟩)

theorem upd_upd (H : AHeap) (a : Addr) (o o' : AObj) : (H.upd a o).upd a o' = H.upd a o' := by
  funext b; unfold AHeap.upd; split <;> rfl
theorem upd_same {H : AHeap} {a : Addr} {o : AObj} (e : H a = some o) : H.upd a o = H := by
  funext b; unfold AHeap.upd; split
  · rename_i q; subst q; exact e.symm
  · rfl
theorem Free.upd {a I : Addr} {o : AObj} (F : Free C env H I) (h : I ≠ a) : Free C env (H.upd a o) I := ⟨F.old, (AHeap.upd_ne _ _ h).trans F.un, F.loc, F.cell⟩
theorem Free.ne {a I : Addr} {o : AObj} (F : Free C env H I) (e : H a = some o) : I ≠ a := fun q => by have := F.un; rw [q, e] at this; cases this

/-- a kind of set that is only added to -/
structure SetK {α : Type} [DecidableEq α] (f : α → AV) (mk : List α → AObj) (okk : α → Prop) (ins : List α → α → List α) : Prop where
  emp : ∀ (C : Cx) h a, h.get? a = some (setObj #[] 0 (.fresh 0 0 (!byText C.w))) → Shape C.w h a (mk [])
  own : ∀ S, (mk S).fz = false
  ty : ∀ S, (mk S).ty = "set"
  len : ∀ S k, (ins S k).length ≤ S.length + 1
  add : ∀ (C : Cx) A env ρ H s a S k c (Q : Bool → Shared → Prop), AIn 10 A → SRep C env ρ H s → H a = some (mk S) → S.length < 12 → okk k → VRep s.heap (f k) c →
    (∀ s', TExt s.heap s'.heap → SRep C env ρ (H.upd a (mk (ins S k))) s' → Q (!decide (k ∈ S)) s') → W C A (setAdd a c) Q s
theorem setKI : SetK AV.int .iset (fun k => 0 ≤ k ∧ k < 5) insI where
  emp := fun C h a g => ⟨[], ⟨#[], 0, g, trivial, .nil, fun x hx => nomatch hx⟩, List.Perm.refl _⟩
  own := fun S => rfl
  ty := fun S => rfl
  len := fun S k => by unfold insI; split <;> simp
  add := fun C A env ρ H s a S k c Q _ R e _ hk hc h => add_set R e hk hc h

section
variable {α : Type} [DecidableEq α] {f : α → AV} {mk : List α → AObj} {okk : α → Prop} {ins : List α → α → List α}
theorem TC_sadd (K : SetK f mk okk ins) {a : Addr} {S : List α} {k : α} {Q : AV → AHeap → Prop} (e : H a = some (mk S)) (hl : S.length < 12) (hk : okk k) (h : Q .none (H.upd a (mk (ins S k)))) :
    TC C (.builtin "set.add") [.ref a, f k] H Q := fun A env ρ s vs ok R hv => by
  match vs, hv with
  | [va, vk], ⟨h1, h2, _⟩ =>
    obtain rfl := h1
    refine wpAny_call_entry PySem.F.slot_set_add (K.ty S ▸ (R.typed e).1) PySem.F.entry_set_add ?_ (PySem.F.args_set_add_2 _ _)
    unfold Builtin.«set.add» Builtin.Frozenset.oneOther
    simp only [List.isEmpty_nil, bind_assoc]
    unfold Builtin.Frozenset.addrOf
    refine wpAny_bind (wpAny_pure ?_)
    try dsimp only
    refine wpAny_bind (wpAny_pure ?_)
    try dsimp only
    refine wpAny_bind ?_
    refine K.add C _ env ρ H s a S k vk _ (ok.within.in1.le (by decide)) R e hl hk h2 fun s' t R' => ?_
    show wpAny _ _ (ret Value.none) _ _ _
    exact wpAny_pure ⟨_, rfl, t, .none, _, rfl, R', h⟩

theorem len_fold (K : SetK f mk okk ins) (S : List α) (k : α) : (ins S k).length ≤ S.length + 1 := K.len S k
theorem upd_loop (K : SetK f mk okk ins) {I a : Addr} {xs : List α} {Kt : Nat → Obj → Prop} {src : AHeap → Prop} (hn : NextOf C I (xs.map f) Kt src) (hsrc : ∀ H S, src H → src (H.upd a (mk S))) (hok : ∀ x ∈ xs, okk x) {R : Result → Shared → Prop} :
    ∀ (n i : Nat) (S : List α) (H : AHeap) (s : Shared) (ob : Obj), xs.length - i = n → i ≤ xs.length → AIn 20 A → SRep C env ρ H s → H a = some (mk S) → src H → Free C env H I → s.heap.get? I = some ob → Kt i ob → S.length + n < 12 →
      (∀ s', TExt s.heap s'.heap → SRep C env ρ (H.upd a (mk ((xs.drop i).foldl ins S))) s' → R (.ok (.ret .none)) s') →
      codeAny (model C.prog C.w) A (.builtin "set.update.loop" ⟨[.ref a, .ref I], []⟩) R s := by
  intro n
  induction n with
  | zero =>
    intro i S H s ob hni hi hA hR hH hs hF hg hK hlen hq
    refine codeAny_builtin PyProof.Rows.F.entry_set_update_loop ?_
    rw [Around.under_plainId PyProof.Rows.F.plain_set_update_loop _]
    show wpAny _ A.in1 (pyNext (.ref I) >>= _) _ _ s
    refine wpAny_bind (wpAny_mono (hn.2.2 A.in1 env ρ H s i ob (hA.in1.le (by decide)) hR hs hF hg hK (by simpa using hi)) (fun r s' ⟨t, R', hr⟩ => ?_) fun _ _ x => x.elim)
    cases r with
    | none =>
      show wpAny _ A.in1 (ret Value.none) _ _ s'
      refine wpAny_pure (hq s' t ?_)
      rw [List.drop_of_length_le (by omega), List.foldl_nil, upd_same hH]; exact R'
    | some c =>
      obtain ⟨v, ob', hv, _⟩ := hr
      have := (List.getElem?_eq_some_iff.mp hv).1
      simp at this
      omega
  | succ n ih =>
    intro i S H s ob hni hi hA hR hH hs hF hg hK hlen hq
    have hlt : i < xs.length := by omega
    refine codeAny_builtin PyProof.Rows.F.entry_set_update_loop ?_
    rw [Around.under_plainId PyProof.Rows.F.plain_set_update_loop _]
    show wpAny _ A.in1 (pyNext (.ref I) >>= _) _ _ s
    refine wpAny_bind (wpAny_mono (hn.2.2 A.in1 env ρ H s i ob (hA.in1.le (by decide)) hR hs hF hg hK (by simpa using hi)) (fun r s' ⟨t, R', hr⟩ => ?_) fun _ _ x => x.elim)
    cases r with
    | none => simp at hr; omega
    | some c =>
      obtain ⟨v, ob', hv, hvc, hg', hK'⟩ := hr
      obtain ⟨x, hx, rfl⟩ : ∃ x, xs[i]? = some x ∧ f x = v := by
        rw [List.getElem?_map] at hv
        cases q : xs[i]? with
        | none => rw [q] at hv; cases hv
        | some x => rw [q] at hv; exact ⟨x, rfl, Option.some.inj hv⟩
      have hF' : I ≠ a := hF.ne hH
      show wpAny _ A.in1 (holding [c] (setAdd a c) >>= _) _ _ s'
      refine wpAny_bind (wpAny_holding ?_)
      refine wpAny_mono (K.add (C.hold I ob') A.in1 env ρ H s' a S x c (fun _ s'' => TExt s'.heap s''.heap ∧ SRep C env ρ (H.upd a (mk (ins S x))) s'' ∧ s''.heap.get? I = some ob') (hA.in1.le (by decide)) (R'.free hg' hF) hH (by omega) (hok x (List.mem_of_getElem? hx)) hvc (fun s'' t' R'' => ?_)) ?_ fun _ _ x => x.elim
      · obtain ⟨h1, h2, _⟩ := R''.back (hn.1 _ _ hK') hF.old
        exact ⟨t', h1, h2⟩
      · rintro b s'' ⟨t', R'', g''⟩
        refine wpAny_pure ⟨plainId_quiet PyProof.Rows.F.plain_set_update_loop _, ih (i + 1) (ins S x) (H.upd a (mk (ins S x))) s'' ob' (by omega) (by omega) hA R'' (AHeap.upd_self _ _ _) (hsrc _ _ hs) (hF.upd hF') g'' hK' (by have := K.len S x; omega) fun s₃ t₃ R₃ => hq s₃ ((t.trans t').trans t₃) ?_⟩
        rw [upd_upd] at R₃
        rw [List.drop_eq_getElem_cons hlt, List.foldl_cons]
        have : xs[i] = x := by rw [List.getElem?_eq_getElem hlt] at hx; exact Option.some.inj hx
        rw [this]; exact R₃
end
end
end Mine
end
section
open PySem PySem.W PyProof.Rows PySem.SeqAt
set_option maxRecDepth 10000
set_option autoImplicit false
set_option linter.unusedVariables false
namespace Mine
/-- a type that is no set and no dict -/
structure NoSet (T : String) : Prop where
  s : isSubtype (.type T) (.type "set") = pure false
  f : isSubtype (.type T) (.type "frozenset") = pure false
  d : (Value.type T == Value.type "dict") = false
theorem noSet_list : NoSet "list" := ⟨PySem.F.sub_list_set, PySem.F.sub_list_frozenset, by decide⟩
theorem noSet_dd : NoSet "collections.defaultdict" := ⟨by rw [isSubtype_type]; kernel_rfl, by rw [isSubtype_type]; kernel_rfl, by decide⟩
section
variable {C : Cx} {A : Around} {env : Env} {ρ : Loc} {H : AHeap} {s : Shared}
variable {α : Type} [DecidableEq α] {f : α → AV} {mk : List α → AObj} {okk : α → Prop} {ins : List α → α → List α}
theorem is_any {c : Value} {T : String} {Q : Bool → Shared → Prop} (hT : s.TypeIs c T) (n : NoSet T) (h : Q false s) : W C A (Builtin.Frozenset.isAnySet c) Q s := by
  unfold Builtin.Frozenset.isAnySet
  refine wpAny_bind (wpAny_isInstance hT n.s ?_)
  exact wpAny_isInstance hT n.f h

/-- the items of an iterable go into a set -/
theorem upd_from (K : SetK f mk okk ins) {id : String} {a : Addr} {S : List α} {v : AV} {c : Value} {xs : List α} {T : String} {src : AHeap → Prop} {Q : Unit → Shared → Prop} (hA : AIn 21 A) (R : SRep C env ρ H s) (hH : H a = some (mk S)) (hv : VRep s.heap v c)
    (hT : s.TypeIs c T) (n : NoSet T) (hit : IterOf C v H (xs.map f) src) (hs : src H) (hsrc : ∀ H S, src H → src (H.upd a (mk S))) (hok : ∀ x ∈ xs, okk x) (hlen : S.length + xs.length < 12)
    (h : ∀ s', TExt s.heap s'.heap → SRep C env ρ (H.upd a (mk (xs.foldl ins S))) s' → Q () s') : W C A (Builtin.Frozenset.updateFrom id a c) Q s := by
  unfold Builtin.Frozenset.updateFrom
  refine wpAny_bind (is_any hT n ?_)
  simp only [Bool.false_eq_true, if_false]
  refine wpAny_bind (wpAny_typeOf hT ?_)
  rw [n.d]
  simp only [Bool.false_eq_true, if_false]
  refine wpAny_bind (wpAny_mono (hit A env ρ s c (hA.le (by decide)) R hv) (fun it s₁ ⟨t, R₁, I, ob, Kt, e, F, g, hK, hn, _⟩ => ?_) fun _ _ x => x.elim)
  subst e
  refine wpAny_bind (wpAny_runValue ?_)
  refine upd_loop K hn hsrc hok xs.length 0 S H s₁ ob (by omega) (by omega) (hA.le (by decide)) R₁ hH hs F g hK hlen fun s' t' R' => ?_
  exact wpAny_pure (h s' (t.trans t') (by simpa using R'))

theorem TC_supdate (K : SetK f mk okk ins) {a b : Addr} {S xs : List α} {Q : AV → AHeap → Prop} (e : H a = some (mk S)) (hb : H.items b = some (xs.map f)) (hok : ∀ x ∈ xs, okk x) (hlen : S.length + xs.length < 12)
    (h : Q .none (H.upd a (mk (xs.foldl ins S)))) : TC C (.builtin "set.update") [.ref a, .ref b] H Q := fun A env ρ s vs ok R hv => by
  match vs, hv with
  | [va, vb], ⟨h1, h2, _⟩ =>
    obtain rfl := h1
    obtain rfl := h2
    have hT : s.TypeIs (.ref b) "list" := (R.listAt hb).isList.elim fun _ h => h.1.typeIs
    have hne : a ≠ b := fun q => by
      subst q
      unfold AHeap.items at hb
      rw [e] at hb
      have := K.ty S
      generalize mk S = o at this hb
      cases o with
      | list _ => exact absurd (show "list" = "set" from this) (by decide)
      | ro _ => exact absurd (show "list" = "set" from this) (by decide)
      | _ => cases hb
    refine wpAny_call_entry PySem.F.slot_set_update (K.ty S ▸ (R.typed e).1) PySem.F.entry_set_update ?_ (PySem.F.args_set_update_2 _ _)
    unfold Builtin.«set.update» Builtin.Frozenset.manyOthers
    simp only [List.isEmpty_nil]
    unfold Builtin.Frozenset.addrOf
    simp only [Bool.not_true, Bool.false_eq_true, if_false]
    refine wpAny_bind (wpAny_pure ?_)
    try dsimp only
    simp only [List.forIn_cons, List.forIn_nil]
    refine wpAny_bind ?_
    refine wpAny_bind (wpAny_bind (upd_from K (ok.within.in1.le (by decide)) R e (v := .ref b) rfl hT noSet_list (iter_list hb) hb (fun H' S' q => ?_) hok hlen fun s' t R' => ?_))
    · unfold AHeap.items at q ⊢; rw [AHeap.upd_ne _ _ (Ne.symm hne)]; exact q
    · refine wpAny_pure ?_
      dsimp only
      refine wpAny_pure ?_
      show wpAny _ _ (ret Value.none) _ _ _
      exact wpAny_pure ⟨_, rfl, t, .none, _, rfl, R', h⟩

/-! set(), set(x) -/
theorem code_new_set (args : List Value) (hnew : checkBuiltinCall "set.__new__" ⟨.type "set" :: args, []⟩ = pure ()) (hl : args.length ≤ 1) {Q₁ : Value → Shared → Prop}
    (h : Q₁ (.ref s.heap.objs.size) { s with heap := s.heap.push (setObj #[] 0 (.fresh 0 0 (!byText C.w))) }) :
    codeAny (model C.prog C.w) A (.call (.builtin "set.__new__") ⟨.type "set" :: args, []⟩) (wants Q₁ fun _ _ => False) s := by
  refine codeAny_of_tree ?_
  show wpAny _ A.in1 (do checkBuiltinCall "set.__new__" ⟨.type "set" :: args, []⟩; again (.builtin "set.__new__" ⟨.type "set" :: args, []⟩)) _ _ s
  refine wpAny_bind (wpAny_of_eq hnew (wpAny_pure ⟨plainId_quiet PySem.F.plain_set_new _, codeAny_builtin PySem.F.entry_set_new ?_⟩))
  rw [Around.under_plainId PySem.F.plain_set_new _]
  unfold Builtin.«set.__new__» Builtin.Frozenset.newClass
  have hsub := sub_set_self
  obtain ⟨hp, g, d, tk, os⟩ := s
  dsimp only
  wp_walk
  refine wpAny_askSetting (wpAny_pure ?_)
  dsimp only
  simp only [newObj]
  refine wpAny_bind (wpAny_alloc (wpAny_pure ?_))
  exact wpAny_pure h

set_option maxRecDepth 100000 in
set_option maxHeartbeats 3200000 in
theorem call_set_one {c : Value} {Q : Value → Shared → Prop}
    (h : W C A.in1.in1 (Builtin.Frozenset.updateFrom "set.__init__" s.heap.objs.size c) (fun _ s' => Q (.ref s.heap.objs.size) s') { s with heap := s.heap.push (setObj #[] 0 (.fresh 0 0 (!byText C.w))) }) :
    W C A (call (.type "set") [c]) Q s := by
  obtain ⟨c', tl, hmro⟩ := PySem.F.called_set.mro
  have hmade := PySem.F.called_set.made
  have hsub := PySem.F.called_set.sub
  refine wpAny_call (codeAny_of_tree ?_)
  show wpAny _ _ (callAny (.type "set") _) _ _ _
  refine wpAny_pure ⟨Code.quiet_builtin _ (by decide +kernel), codeAny_builtin PySem.F.entry_type_call ?_⟩
  rw [Around.under_plain (weight_type_call_type "set" [c] []) rfl]
  have h1 := PySem.F.called_set.notType
  have h2 := PySem.F.called_set.canCreate
  have hct := PySem.F.typeCall_set_1 c
  repeat (any_goals (first | assumption | wp_step))
  refine codeAny_mono (code_new_set (C := C) [c] (PySem.F.newCall_set_1 c) (by simp) (Q₁ := fun obj s₁ => obj = .ref s.heap.objs.size ∧ s₁ = { s with heap := s.heap.push (setObj #[] 0 (.fresh 0 0 (!byText C.w))) }) ⟨rfl, rfl⟩) fun r s₁ hr => ?_
  cases r with
  | error e => exact hr
  | ok fl =>
    cases fl with
    | ret obj =>
      obtain ⟨rfl, rfl⟩ := hr
      have hS : (s.heap.push (setObj #[] 0 (.fresh 0 0 (!byText C.w)))).get? s.heap.objs.size = some (setObj #[] 0 (.fresh 0 0 (!byText C.w))) := Heap.get?_push_size _ rfl
      have hT : Shared.TypeIs { s with heap := s.heap.push (setObj #[] 0 (.fresh 0 0 (!byText C.w))) } (.ref s.heap.objs.size) "set" := ⟨_, hS, rfl⟩
      have hli := PySem.F.called_set.init.lookup
      have hbi := PySem.F.called_set.init.bind (.ref s.heap.objs.size)
      repeat (any_goals (first | assumption | wp_step))
      refine codeAny_mono (codeAny_call_builtin (R := wants (fun r s₂ => r = .none ∧ Q (.ref s.heap.objs.size) s₂) fun _ _ => False) PySem.F.called_set.init.plain PySem.F.entry_set_init (check_set_init_1 hT ?_)) fun r₂ s₂ hr₂ => ?_
      · unfold Builtin.«set.__init__» noKeywords
        generalize hU : Builtin.Frozenset.updateFrom = U at h ⊢
        wp_walk
        exact wpAny_mono h (fun _ s' hq => wpAny_pure ⟨rfl, hq⟩) fun _ _ x => x.elim
      · cases r₂ with
        | error e => exact hr₂
        | ok fl₂ =>
          cases fl₂ with
          | ret r =>
            obtain ⟨rfl, hq⟩ := hr₂
            repeat (any_goals (first | assumption | wp_step))
          | _ => exact hr₂.elim
    | _ => exact hr.elim

set_option maxRecDepth 100000 in
set_option maxHeartbeats 3200000 in
theorem code_set_zero {Q : Value → Shared → Prop} (h : Q (.ref s.heap.objs.size) { s with heap := s.heap.push (setObj #[] 0 (.fresh 0 0 (!byText C.w))) }) :
    codeAny (model C.prog C.w) A (.call (.type "set") ⟨[], []⟩) (wants Q fun _ _ => False) s := by
  obtain ⟨c', tl, hmro⟩ := PySem.F.called_set.mro
  have hmade := PySem.F.called_set.made
  have hsub := PySem.F.called_set.sub
  refine codeAny_of_tree ?_
  show wpAny _ _ (callAny (.type "set") _) _ _ _
  refine wpAny_pure ⟨Code.quiet_builtin _ (by decide +kernel), codeAny_builtin PySem.F.entry_type_call ?_⟩
  rw [Around.under_plain (weight_type_call_type "set" [] []) rfl]
  have h1 := PySem.F.called_set.notType
  have h2 := PySem.F.called_set.canCreate
  have hct := PySem.F.typeCall_set_0
  repeat (any_goals (first | assumption | wp_step))
  refine codeAny_mono (code_new_set (C := C) [] PySem.F.newCall_set_0 (by simp) (Q₁ := fun obj s₁ => obj = .ref s.heap.objs.size ∧ s₁ = { s with heap := s.heap.push (setObj #[] 0 (.fresh 0 0 (!byText C.w))) }) ⟨rfl, rfl⟩) fun r s₁ hr => ?_
  cases r with
  | error e => exact hr
  | ok fl =>
    cases fl with
    | ret obj =>
      obtain ⟨rfl, rfl⟩ := hr
      have hS : (s.heap.push (setObj #[] 0 (.fresh 0 0 (!byText C.w)))).get? s.heap.objs.size = some (setObj #[] 0 (.fresh 0 0 (!byText C.w))) := Heap.get?_push_size _ rfl
      have hT : Shared.TypeIs { s with heap := s.heap.push (setObj #[] 0 (.fresh 0 0 (!byText C.w))) } (.ref s.heap.objs.size) "set" := ⟨_, hS, rfl⟩
      have hli := PySem.F.called_set.init.lookup
      have hbi := PySem.F.called_set.init.bind (.ref s.heap.objs.size)
      repeat (any_goals (first | assumption | wp_step))
      refine codeAny_mono (codeAny_call_builtin (R := wants (fun r s₂ => r = .none ∧ Q (.ref s.heap.objs.size) s₂) fun _ _ => False) PySem.F.called_set.init.plain PySem.F.entry_set_init (check_set_init hT ?_)) fun r₂ s₂ hr₂ => ?_
      · unfold Builtin.«set.__init__» noKeywords
        wp_walk
        exact ⟨rfl, h⟩
      · cases r₂ with
        | error e => exact hr₂
        | ok fl₂ =>
          cases fl₂ with
          | ret r =>
            obtain ⟨rfl, hq⟩ := hr₂
            repeat (any_goals (first | assumption | wp_step))
          | _ => exact hr₂.elim
    | _ => exact hr.elim

theorem call_set_zero {Q : Value → Shared → Prop} (h : Q (.ref s.heap.objs.size) { s with heap := s.heap.push (setObj #[] 0 (.fresh 0 0 (!byText C.w))) }) :
    W C A (call (.type "set") []) Q s := wpAny_call (code_set_zero h)
theorem set_made (K : SetK f mk okk ins) (R : SRep C env ρ H s) : SRep C env ρ (H.upd s.heap.objs.size (mk [])) { s with heap := s.heap.push (setObj #[] 0 (.fresh 0 0 (!byText C.w))) } :=
  R.alloc (tk := s.toks) fun n => ⟨K.emp C _ _ (Heap.get?_push_size _ rfl), by unfold Place; rw [K.own]; exact n⟩
theorem TC_set0 (K : SetK f mk okk ins) {Q : AV → AHeap → Prop} (h : ∀ a, H a = none → Q (.ref a) (H.upd a (mk []))) : TC C (.type "set") [] H Q := fun A env ρ s vs ok R hv => by
  match vs, hv with
  | [], _ => exact call_set_zero ⟨(Ext.push _ _).t, .ref _, _, rfl, set_made K R, h _ (R.unheld (Nat.le_refl _))⟩
/-- set(x) of an iterable that stands -/
theorem TC_set1 (K : SetK f mk okk ins) {b : Addr} {o : AObj} {xs : List α} {src : AHeap → Prop} {Q : AV → AHeap → Prop} (hb : H b = some o) (n : NoSet o.ty) (hit : ∀ H : AHeap, src H → IterOf C (.ref b) H (xs.map f) src) (hs : src H) (hsrc : ∀ (H : AHeap) a S, a ≠ b → src H → src (H.upd a (mk S)))
    (hok : ∀ x ∈ xs, okk x) (hlen : xs.length < 12) (h : ∀ a, H a = none → Q (.ref a) (H.upd a (mk (xs.foldl ins [])))) : TC C (.type "set") [.ref b] H Q := fun A env ρ s vs ok R hv => by
  match vs, hv with
  | [vb], ⟨h1, _⟩ =>
    obtain rfl := h1
    have R₁ := set_made K R
    have hne : s.heap.objs.size ≠ b := fun q => by have := R.unheld (Nat.le_refl _); rw [q, hb] at this; cases this
    refine call_set_one ?_
    refine upd_from K (v := .ref b) (H := H.upd s.heap.objs.size (mk [])) (ok.within.in1.in1.le (by decide)) R₁ (AHeap.upd_self _ _ _) rfl (R₁.typed (o := o) (by rw [AHeap.upd_ne _ _ (Ne.symm hne)]; exact hb)).1 n (hit _ (hsrc _ _ _ hne hs)) (hsrc _ _ _ hne hs) (fun H' S' q => hsrc _ _ _ hne q) hok (by simpa using hlen) fun s' t R' => ?_
    rw [upd_upd] at R'
    exact ⟨(Ext.push _ _).t.trans t, .ref _, _, rfl, R', h _ (R.unheld (Nat.le_refl _))⟩
theorem TC_set_list (K : SetK f mk okk ins) {b : Addr} {xs : List α} {Q : AV → AHeap → Prop} (hb : H.items b = some (xs.map f)) (hok : ∀ x ∈ xs, okk x) (hlen : xs.length < 12) (h : ∀ a, H a = none → Q (.ref a) (H.upd a (mk (xs.foldl ins [])))) :
    TC C (.type "set") [.ref b] H Q := by
  obtain ⟨o, ho, hT⟩ : ∃ o, H b = some o ∧ o.ty = "list" := by
    unfold AHeap.items at hb
    cases q : H b with
    | none => rw [q] at hb; cases hb
    | some o =>
      rw [q] at hb
      cases o with
      | list _ => exact ⟨_, rfl, rfl⟩
      | ro _ => exact ⟨_, rfl, rfl⟩
      | _ => cases hb
  refine TC_set1 K (src := fun H => H.items b = some (xs.map f)) ho (hT ▸ noSet_list) (fun H hH => iter_list hH) hb (fun H' a S hne q => ?_) hok hlen h
  unfold AHeap.items at q ⊢; rw [AHeap.upd_ne _ _ (Ne.symm hne)]; exact q
end
end Mine
end
section
open PySem PySem.W PyProof.Rows PySem.SeqAt
set_option maxRecDepth 10000
set_option autoImplicit false
set_option linter.unusedVariables false
namespace Mine
theorem entry_set_isdisjoint : entryFor table "set.isdisjoint" = some Builtin.«frozenset.isdisjoint» :=
  entryFor_alias (id' := "frozenset.isdisjoint") (by rw [fastTable_eq_tree]; kernel_rfl) rfl (by decide +kernel) (by rw [fastTable_eq_tree]; kernel_rfl)
theorem entry_set_difference : entryFor table "set.difference" = some Builtin.«frozenset.difference» :=
  entryFor_alias (id' := "frozenset.difference") (by rw [fastTable_eq_tree]; kernel_rfl) rfl (by decide +kernel) (by rw [fastTable_eq_tree]; kernel_rfl)
theorem entry_diff_loop : entryFor table "set.difference_update.loop" = some Builtin.«set.difference_update.loop» := entryFor_of_tree (by kernel_rfl)
theorem plain_diff_loop : plainId "set.difference_update.loop" = true := by decide +kernel
theorem noBool_set : typeLookup (.type "set") "__bool__" = pure none := by rw [typeLookup_type, builtinLookup_eq_fast]; kernel_rfl

theorem eraseIdx_find {k : Int} : ∀ {l : List Int} {j : Nat}, l.findIdx? (fun x => x == k) = some j → l.eraseIdx j = l.erase k
  | [], j, h => by simp at h
  | x :: xs, j, h => by
    rw [List.findIdx?_cons] at h
    by_cases q : x = k
    · subst q
      simp at h
      subst h
      simp
    · have hb : (x == k) = false := by simpa using q
      rw [hb] at h
      simp only [Bool.false_eq_true, if_false] at h
      cases hr : xs.findIdx? (fun x => x == k) with
      | none => rw [hr] at h; cases h
      | some i =>
        rw [hr] at h
        cases h
        rw [List.eraseIdx_cons_succ, eraseIdx_find hr, List.erase_cons, hb]; rfl
theorem toList_eraseAt {α : Type} (xs : Array α) (p : Nat) : (SetTable.eraseAt xs p).toList = xs.toList.eraseIdx p := by
  unfold SetTable.eraseAt
  rw [List.eraseIdx_eq_take_drop_succ]
  simp [Array.toList_extract]
  exact List.take_of_length_le (by simp)
theorem IEnts.eraseIdx {es : List (Int × Value)} {l : List Int} (r : IEnts es l) (p : Nat) : IEnts (es.eraseIdx p) (l.eraseIdx p) := by
  rw [List.eraseIdx_eq_take_drop_succ, List.eraseIdx_eq_take_drop_succ]
  exact (r.take _).append (r.drop _)
theorem drop_fits {t : SetTable} {n i : Nat} (h : t.fits n = true) (hi : i < n) : (t.drop i).fits (n - 1) = true := by
  simp only [SetTable.fits, Bool.and_eq_true, beq_iff_eq, decide_eq_true_eq] at h ⊢
  obtain ⟨h1, h2⟩ := h
  have hp : t.place[i]? = some (t.place[i]'(by omega)) := Array.getElem?_eq_getElem (by omega)
  have e1 : (SetTable.eraseAt t.place i).size = n - 1 := by
    rw [← Array.length_toList, toList_eraseAt, List.length_eraseIdx, if_pos (by simpa using by omega)]
    simp [h1]
  have e2 : ∀ p, (SetTable.insertAt t.dummies p (t.place[i]'(by omega))).size = t.dummies.size + 1 := fun p => by
    have := (SetTable.insertAt_perm t.dummies p (t.place[i]'(by omega))).length_eq
    simpa using this
  unfold SetTable.drop SetTable.fill
  rw [hp]
  simp only [e1, e2]
  unfold SetTable.fill at h2
  refine ⟨trivial, ?_⟩
  omega

section
variable {C : Cx} {A : Around} {env : Env} {ρ : Loc} {H : AHeap} {s : Shared}

theorem SRep.weaken {a : Addr} {S : List Int} (R : SRep C env ρ H s) (e : H a = some (.iset S)) : SRep C env ρ (H.upd a (.wset S)) s := by
  obtain ⟨⟨l, h1, h2⟩, hn⟩ := R.hp a _ e
  exact R.add ⟨⟨l, h1.weak, h2⟩, hn⟩ (fun q => by have := R.sep; rw [← q, e] at this; cases this)

theorem findI {a : Addr} {l : List Int} {k : Int} {t : Tok} {Q : Option Nat → Shared → Prop} (g : WSet s.heap a l) (h : Q (l.findIdx? (fun x => x == k)) s) : W C A (setFind a (.int k t) (hashInt k)) Q s := by
  obtain ⟨es, ep, tb, ho, r, hp, hm, hf⟩ := g
  have hl := r.length
  rw [Array.length_toList] at hl
  have h5 : l.length ≤ 5 := by
    have : ∀ l ∈ subs five, l.length ≤ 5 := by decide +kernel
    exact this l (sub5 hp hm)
  have hb : es.size < scanBound := by have : scanBound = 4096 := rfl; omega
  unfold setFind setFindIn
  refine wpAny_bind (wpAny_setState_of ho rfl hf ?_)
  dsimp only
  rw [byScan_of (knd := intKind C.prog C.w) rfl hb r.elems]
  simp only [↓reduceIte]
  refine wpAny_bind (wpAny_rule ?_)
  refine wpAny_bind (wpAny_setScan_of (knd := intKind C.prog C.w) (intKind_is _ _ k t) ho rfl hf r.elems ?_)
  rw [r.find]
  cases hr : l.findIdx? (fun x => x == k) with
  | none => rw [hr] at h; dsimp only; exact wpAny_pure h
  | some j => rw [hr] at h; dsimp only; rw [Nat.zero_add]; exact wpAny_pure h

theorem perm_erase {l S : List Int} (h : l.Perm S) (k : Int) : (l.erase k).Perm (S.erase k) := h.erase k
/-- k is taken out -/
theorem disc_set {a : Addr} {S : List Int} {k : Int} {t : Tok} {Q : Bool → Shared → Prop} (R : SRep C env ρ H s) (e : H a = some (.wset S))
    (h : ∀ s', TExt s.heap s'.heap → SRep C env ρ (H.upd a (.wset (S.erase k))) s' → Q (decide (k ∈ S)) s') : W C A (setDiscardHashed a (.int k t) (hashInt k)) Q s := by
  obtain ⟨⟨l, hw, hperm⟩, hn⟩ := R.hp a _ e
  unfold setDiscardHashed
  refine wpAny_bind (findI hw ?_)
  obtain ⟨es, ep, tb, g, r, hp, hm, hf⟩ := hw
  have hlen := r.length
  rw [Array.length_toList] at hlen
  cases hr : l.findIdx? (fun x => x == k) with
  | none =>
    have hk : k ∉ l := fun q => by have := List.findIdx?_eq_none_iff.mp hr k q; simp at this
    have hkS : k ∉ S := fun q => hk (hperm.mem_iff.mpr q)
    dsimp only
    refine wpAny_pure ?_
    have := h s (TExt.refl _) (by rw [List.erase_of_not_mem hkS, upd_same e]; exact R)
    rw [decide_eq_false hkS] at this
    exact this
  | some j =>
    obtain ⟨hj, hpj, _⟩ := List.findIdx?_eq_some_iff_getElem.mp hr
    have hk : k ∈ l := by
      have : l[j] = k := by simpa using hpj
      exact this ▸ List.getElem_mem hj
    have hkS : k ∈ S := hperm.mem_iff.mp hk
    dsimp only
    refine wpAny_bind (wpAny_setState_of g rfl hf ?_)
    dsimp only
    have h5 : l.length ≤ 5 := by
      have : ∀ l ∈ subs five, l.length ≤ 5 := by decide +kernel
      exact this l (sub5 hp hm)
    have e1 : (SetTable.eraseAt es j).size = es.size - 1 := by
      rw [← Array.length_toList, toList_eraseAt, List.length_eraseIdx, if_pos (by simpa using by omega)]
      simp
    refine wpAny_bind (wpAny_storeSet_of g rfl ?_ (by rw [e1]; have : sizeLine = 2 ^ 24 := rfl; omega))
    refine wpAny_bind (wpAny_point (wpAny_pure ?_))
    have g1 := put_set (es' := SetTable.eraseAt es j) (t' := tb.drop j) g
    have sb := Heap.SameBut.update s.heap a (Obj.putSet (SetTable.eraseAt es j) (tb.drop j))
    have R' := R.change (tk := s.toks) (o' := .wset (S.erase k)) e g hn set_not_tup (fun v q => nomatch q) sb.extBut fun t => ⟨⟨l.erase k, ⟨_, _, _, g1, by rw [toList_eraseAt, ← eraseIdx_find hr]; exact r.eraseIdx j, hp.sublist List.erase_sublist, fun x hx => hm x (List.mem_of_mem_erase hx), by rw [e1]; exact drop_fits hf (by omega)⟩, perm_erase hperm k⟩, hn⟩
    have := h _ (TExt.but sb g set_not_tup) R'
    rw [decide_eq_true hkS] at this
    exact this

end
/-! a table laid anew -/
def layL (mask : Nat) (hs : Array Int) : Option (Array Nat × Array Nat) := (SetTable.layClean mask hs).map fun owner =>
  let live := (List.range (mask + 1)).filterMap fun j => (owner.getD j none).map (j, ·)
  ((live.map (·.1)).toArray, (live.map (·.2)).toArray)
theorem laid_eq (mask f m : Nat) (led plain : Bool) (hs : Array Int) : SetTable.laid mask f m led plain hs = (layL mask hs).map fun p => ({ mask, place := p.1, dummies := #[], finger := f, led, moves := m, plain }, p.2) := by
  unfold SetTable.laid layL
  cases SetTable.layClean mask hs <;> rfl
theorem lay_five : ∀ l ∈ subs five, layL (SetTable.sizeAbove (SetTable.grown l.length) - 1) l.toArray = some ((l.map Int.toNat).toArray, (List.range l.length).toArray) ∧ SetTable.sizeAbove (SetTable.grown l.length) ≤ 32 ∧ l.length ≤ SetTable.sizeAbove (SetTable.grown l.length) - 1 ∧ l.length ≤ 5 := by decide +kernel
theorem lay_15 : layL 15 five.toArray = some (#[0, 1, 2, 3, 4], #[0, 1, 2, 3, 4]) ∧ layL 15 #[] = some (#[], #[]) := by decide +kernel
theorem hashes_of {es : Array (Int × Value)} {l : List Int} (r : IEnts es.toList l) (hm : ∀ x ∈ l, 0 ≤ x ∧ x < 5) : es.map (·.1) = l.toArray := by
  apply Array.toList_inj.mp
  rw [Array.toList_map, r.hashes, hashes5 hm]
theorem order_all (es : Array (Int × Value)) (n : Nat) (h : es.size = n) : (List.range n).toArray.filterMap (fun x => es[x]?) = es := by
  apply Array.toList_inj.mp
  rw [Array.toList_filterMap]
  have := filterMap_getElem?_range es
  rw [h] at this
  exact this
section
variable {C : Cx} {A : Around} {env : Env} {ρ : Loc} {H : AHeap} {s : Shared}
/-- the set is laid anew -/
theorem tidy_set {a : Addr} {S : List Int} {Q : Unit → Shared → Prop} (R : SRep C env ρ H s) (e : H a = some (.wset S)) (h : ∀ s', TExt s.heap s'.heap → SRep C env ρ H s' → Q () s') : W C A (setTidy a) Q s := by
  obtain ⟨⟨l, ⟨es, ep, tb, g, r, hp, hm, hf⟩, hperm⟩, hn⟩ := R.hp a _ e
  have hlen := r.length
  rw [Array.length_toList] at hlen
  unfold setTidy
  refine wpAny_bind (wpAny_setState_of g rfl hf ?_)
  dsimp only
  split
  · obtain ⟨f1, f2, f3, f4⟩ := lay_five l (sub5 hp hm)
    unfold setRelay
    refine wpAny_bind (wpAny_setState_of g rfl hf ?_)
    dsimp only
    rw [if_neg (by rw [hlen]; have : sizeLine = 2 ^ 24 := rfl; omega)]
    unfold SetTable.relaid
    rw [hashes_of r hm, laid_eq, hlen, f1]
    refine wpAny_bind ?_
    show wpAny _ _ (if _ then _ else _) _ _ _
    have ho := order_all es l.length hlen
    rw [if_neg (by show ¬ ((List.range l.length).toArray.filterMap (fun x => es[x]?)).size != es.size; rw [ho]; simp)]
    refine wpAny_pure ?_
    dsimp only
    rw [ho]
    refine wpAny_storeSet_of g rfl ?_ (by rw [hlen]; have : sizeLine = 2 ^ 24 := rfl; omega)
    have sb := Heap.SameBut.update s.heap a (Obj.putSet es { mask := SetTable.sizeAbove (SetTable.grown l.length) - 1, place := (l.map Int.toNat).toArray, dummies := #[], finger := tb.finger, led := tb.led, moves := tb.movedTo (SetTable.sizeAbove (SetTable.grown l.length) - 1), plain := tb.plain })
    have R' := R.change (tk := s.toks) (o' := .wset S) e g hn set_not_tup (fun v q => nomatch q) sb.extBut fun t => ⟨⟨l, ⟨_, _, _, put_set g, r, hp, hm, by
      rw [hlen]; simp [SetTable.fits, SetTable.fill, f3]⟩, hperm⟩, hn⟩
    rw [upd_same e] at R'
    exact h _ (TExt.but sb g set_not_tup) R'
  · exact wpAny_pure (h s (TExt.refl _) R)

theorem diff_loop {I a : Addr} {xs : List Int} {Kt : Nat → Obj → Prop} {src : AHeap → Prop} (hn : NextOf C I (xs.map .int) Kt src) (hsrc : ∀ H S, src H → src (H.upd a (.wset S))) {R : Result → Shared → Prop} :
    ∀ (n i : Nat) (S : List Int) (H : AHeap) (s : Shared) (ob : Obj), xs.length - i = n → i ≤ xs.length → AIn 20 A → SRep C env ρ H s → H a = some (.wset S) → src H → Free C env H I → s.heap.get? I = some ob → Kt i ob →
      (∀ s', TExt s.heap s'.heap → SRep C env ρ (H.upd a (.wset ((xs.drop i).foldl List.erase S))) s' → R (.ok (.ret .none)) s') →
      codeAny (model C.prog C.w) A (.builtin "set.difference_update.loop" ⟨[.ref a, .ref I], []⟩) R s := by
  intro n
  induction n with
  | zero =>
    intro i S H s ob hni hi hA hR hH hs hF hg hK hq
    refine codeAny_builtin entry_diff_loop ?_
    rw [Around.under_plainId plain_diff_loop _]
    show wpAny _ A.in1 (pyNext (.ref I) >>= _) _ _ s
    refine wpAny_bind (wpAny_mono (hn.2.2 A.in1 env ρ H s i ob (hA.in1.le (by decide)) hR hs hF hg hK (by simpa using hi)) (fun r s' ⟨t, R', hr⟩ => ?_) fun _ _ x => x.elim)
    cases r with
    | none =>
      show wpAny _ A.in1 (ret Value.none) _ _ s'
      refine wpAny_pure (hq s' t ?_)
      rw [List.drop_of_length_le (by omega), List.foldl_nil, upd_same hH]; exact R'
    | some c =>
      obtain ⟨v, ob', hv, _⟩ := hr
      have := (List.getElem?_eq_some_iff.mp hv).1
      simp at this
      omega
  | succ n ih =>
    intro i S H s ob hni hi hA hR hH hs hF hg hK hq
    have hlt : i < xs.length := by omega
    refine codeAny_builtin entry_diff_loop ?_
    rw [Around.under_plainId plain_diff_loop _]
    show wpAny _ A.in1 (pyNext (.ref I) >>= _) _ _ s
    refine wpAny_bind (wpAny_mono (hn.2.2 A.in1 env ρ H s i ob (hA.in1.le (by decide)) hR hs hF hg hK (by simpa using hi)) (fun r s' ⟨t, R', hr⟩ => ?_) fun _ _ x => x.elim)
    cases r with
    | none => simp at hr; omega
    | some c =>
      obtain ⟨v, ob', hv, hvc, hg', hK'⟩ := hr
      obtain ⟨x, hx, rfl⟩ : ∃ x, xs[i]? = some x ∧ AV.int x = v := by
        rw [List.getElem?_map] at hv
        cases q : xs[i]? with
        | none => rw [q] at hv; cases hv
        | some x => rw [q] at hv; exact ⟨x, rfl, Option.some.inj hv⟩
      obtain ⟨tk, rfl⟩ := hvc
      have hF' : I ≠ a := hF.ne hH
      show wpAny _ A.in1 (holding [Value.int x tk] (setDiscard a (.int x tk)) >>= _) _ _ s'
      refine wpAny_bind (wpAny_holding ?_)
      unfold setDiscard
      refine wpAny_holding ?_
      refine wpAny_bind ((intKind C.prog C.w).pyHash (intKind_is C.prog C.w x tk) ?_)
      refine wpAny_mono (disc_set (C := C.hold I ob') (Q := fun _ s'' => TExt s'.heap s''.heap ∧ SRep C env ρ (H.upd a (.wset (S.erase x))) s'' ∧ s''.heap.get? I = some ob') ((R'.free hg' hF).tok) hH (fun s'' t' R'' => ?_)) ?_ fun _ _ x => x.elim
      · obtain ⟨h1, h2, _⟩ := R''.back (hn.1 _ _ hK') hF.old
        exact ⟨t', h1, h2⟩
      · rintro b s'' ⟨t', R'', g''⟩
        refine wpAny_pure ⟨plainId_quiet plain_diff_loop _, ih (i + 1) (S.erase x) (H.upd a (.wset (S.erase x))) s'' ob' (by omega) (by omega) hA R'' (AHeap.upd_self _ _ _) (hsrc _ _ hs) (hF.upd hF') g'' hK' fun s₃ t₃ R₃ => hq s₃ ((t.trans t').trans t₃) ?_⟩
        rw [upd_upd] at R₃
        rw [List.drop_eq_getElem_cons hlt, List.foldl_cons]
        have : xs[i] = x := by rw [List.getElem?_eq_getElem hlt] at hx; exact Option.some.inj hx
        rw [this]; exact R₃

/-- what stands in a list goes out of a set -/
theorem diff_upd {id : String} {a b : Addr} {S xs : List Int} {Q : Unit → Shared → Prop} (hA : AIn 21 A) (R : SRep C env ρ H s) (hH : H a = some (.wset S)) (hb : H.items b = some (xs.map .int))
    (h : ∀ s', TExt s.heap s'.heap → SRep C env ρ (H.upd a (.wset (xs.foldl List.erase S))) s' → Q () s') : W C A (Builtin.Frozenset.differenceUpdate id a (.ref b)) Q s := by
  have hT : s.TypeIs (.ref b) "list" := (R.listAt hb).isList.elim fun _ h => h.1.typeIs
  have hne : b ≠ a := fun q => by
    subst q
    unfold AHeap.items at hb
    rw [hH] at hb
    cases hb
  unfold Builtin.Frozenset.differenceUpdate
  have hq : (Value.ref b == Value.ref a) = false := by simpa using hne
  rw [hq]
  simp only [Bool.false_eq_true, if_false]
  refine wpAny_bind (is_any hT noSet_list ?_)
  simp only [Bool.false_eq_true, if_false]
  refine wpAny_bind (wpAny_mono (iter_list hb A env ρ s (.ref b) (hA.le (by decide)) R rfl) (fun it s₁ ⟨t, R₁, I, ob, Kt, e, F, g, hK, hn, _⟩ => ?_) fun _ _ x => x.elim)
  subst e
  refine wpAny_bind (wpAny_runValue ?_)
  refine diff_loop hn (fun H' S' q => by unfold AHeap.items at q ⊢; rw [AHeap.upd_ne _ _ hne]; exact q) xs.length 0 S H s₁ ob (by omega) (by omega) (hA.le (by decide)) R₁ hH hb F g hK fun s' t' R' => ?_
  exact tidy_set R' (AHeap.upd_self _ _ _) fun s'' t'' R'' => h s'' ((t.trans t').trans t'') (by simpa using R'')
end
end Mine
end
section
open PySem PySem.W PyProof.Rows PySem.SeqAt
set_option maxRecDepth 10000
set_option autoImplicit false
set_option linter.unusedVariables false
namespace Mine
section
variable {C : Cx} {A : Around} {env : Env} {ρ : Loc} {H : AHeap} {s : Shared}
theorem TC_sdiffupd {a b : Addr} {S xs : List Int} {Q : AV → AHeap → Prop} (e : H a = some (.wset S)) (hb : H.items b = some (xs.map .int)) (h : Q .none (H.upd a (.wset (xs.foldl List.erase S)))) :
    TC C (.builtin "set.difference_update") [.ref a, .ref b] H Q := fun A env ρ s vs ok R hv => by
  match vs, hv with
  | [va, vb], ⟨h1, h2, _⟩ =>
    obtain rfl := h1
    obtain rfl := h2
    refine wpAny_call_entry PySem.F.slot_set_difference_update (R.typed e).1 PySem.F.entry_set_difference_update ?_ (PySem.F.args_set_difference_update_2 _ _)
    unfold Builtin.«set.difference_update» Builtin.Frozenset.manyOthers
    simp only [List.isEmpty_nil]
    unfold Builtin.Frozenset.addrOf
    simp only [Bool.not_true, Bool.false_eq_true, if_false]
    refine wpAny_bind (wpAny_pure ?_)
    try dsimp only
    simp only [List.forIn_cons, List.forIn_nil]
    refine wpAny_bind ?_
    refine wpAny_bind (wpAny_bind (diff_upd (ok.within.in1.le (by decide)) R e hb fun s' t R' => ?_))
    refine wpAny_pure ?_
    dsimp only
    refine wpAny_pure ?_
    show wpAny _ _ (ret Value.none) _ _ _
    exact wpAny_pure ⟨_, rfl, t, .none, _, rfl, R', h⟩

theorem TC_sremove {a : Addr} {S : List Int} {k : Int} {Q : AV → AHeap → Prop} (e : H a = some (.wset S)) (hk : k ∈ S) (h : Q .none (H.upd a (.wset (S.erase k)))) :
    TC C (.builtin "set.remove") [.ref a, .int k] H Q := fun A env ρ s vs ok R hv => by
  match vs, hv with
  | [va, vb], ⟨h1, ⟨t, h2⟩, _⟩ =>
    obtain rfl := h1
    subst h2
    refine wpAny_call_entry PySem.F.slot_set_remove (R.typed e).1 PySem.F.entry_set_remove ?_ (PySem.F.args_set_remove_2 _ _)
    unfold Builtin.«set.remove» Builtin.Frozenset.oneOther
    simp only [List.isEmpty_nil]
    unfold Builtin.Frozenset.addrOf Builtin.Frozenset.withSetAsKey setDiscard
    refine wpAny_bind (wpAny_pure ?_)
    try dsimp only
    refine wpAny_bind (wpAny_tryCatch ?_)
    refine wpAny_holding ?_
    refine wpAny_bind ((intKind C.prog C.w).pyHash (intKind_is C.prog C.w k t) ?_)
    refine wpAny_mono (disc_set (C := C) (Q := fun b s' => b = true ∧ TExt s.heap s'.heap ∧ SRep C env ρ (H.upd a (.wset (S.erase k))) s') (R.tok (tk := s.toks + 1)) e fun s' t' R' => ⟨decide_eq_true hk, t', R'⟩) ?_ fun _ _ x => x.elim
    rintro b s' ⟨rfl, t', R'⟩
    simp only [Bool.not_true, Bool.false_eq_true, if_false]
    show wpAny _ _ (ret Value.none) _ _ _
    exact wpAny_pure ⟨_, rfl, t', .none, _, rfl, R', h⟩

theorem relay_set {a : Addr} {es es' : Array (Int × Value)} {ep wanted : Nat} {t t' : SetTable} {order : Array Nat} {Q : Unit → Shared → Prop} (g : s.heap.get? a = some (setObj es ep t)) (hf : t.fits es.size = true) (hw : ¬ SetTable.sizeAbove wanted > sizeLine)
    (hl : t.relaid (es.map (·.1)) wanted = some (t', order)) (ho : order.filterMap (fun x => es[x]?) = es') (hz : es'.size = es.size) (hs : es.size ≤ sizeLine) (h : Q () { s with heap := s.heap.update a (Obj.putSet es' t') }) : W C A (setRelay a wanted) Q s := by
  unfold setRelay
  refine wpAny_bind (wpAny_setState_of g rfl hf ?_)
  dsimp only
  rw [if_neg hw, hl]
  refine wpAny_bind ?_
  show wpAny _ _ (if _ then _ else _) _ _ _
  rw [if_neg (by show ¬ (order.filterMap (fun x => es[x]?)).size != es.size; rw [ho, hz]; simp)]
  refine wpAny_pure ?_
  dsimp only
  rw [ho]
  exact wpAny_storeSet_of g rfl h (by rw [hz]; exact hs)
/-- a copy -/
theorem copy_set {a : Addr} {S : List Int} {Q : Value → Shared → Prop} (R : SRep C env ρ H s) (e : ∃ l, ISet C.w s.heap a l ∧ l.Perm S)
    (h : ∀ r s', H r = none → TExt s.heap s'.heap → SRep C env ρ (H.upd r (.wset S)) s' → Q (.ref r) s') : W C A (Builtin.Frozenset.copyOf a) Q s := by
  obtain ⟨l, ⟨es, ep, g, r, hp, hm⟩, hperm⟩ := e
  have hlen := r.length
  rw [Array.length_toList] at hlen
  have hfit : (cfg (!byText C.w) l).fits es.size = true := by rw [hlen]; exact cfg_fits hp hm
  have hT : s.TypeIs (.ref a) "set" := ⟨_, g, rfl⟩
  have h5 : l.length ≤ 5 := (lay_five l (sub5 hp hm)).2.2.2
  have hsz : sizeLine = 2 ^ 24 := rfl
  have hne : a ≠ s.heap.objs.size := Nat.ne_of_lt (Heap.lt_size g)
  unfold Builtin.Frozenset.copyOf Builtin.Frozenset.baseOf
  refine wpAny_bind (wpAny_bind (wpAny_isInstance hT sub_set_self ?_))
  simp only [if_true]
  refine wpAny_pure ?_
  unfold newSet setsByText
  refine wpAny_bind (wpAny_bind (wpAny_bind (wpAny_askSetting (wpAny_pure ?_))))
  dsimp only
  simp only [newObj]
  refine wpAny_bind (wpAny_alloc (wpAny_pure ?_))
  unfold Builtin.Frozenset.addrOf
  refine wpAny_bind (wpAny_pure ?_)
  have g0 : (s.heap.push (setObj #[] 0 (.fresh 0 0 (!byText C.w)))).get? s.heap.objs.size = some (setObj #[] 0 (.fresh 0 0 (!byText C.w))) := Heap.get?_push_size _ rfl
  have ga : (s.heap.push (setObj #[] 0 (.fresh 0 0 (!byText C.w)))).get? a = some (setObj es ep (cfg (!byText C.w) l)) := Heap.get?_push_of_some _ g
  have R₁ := set_made setKI R
  have fin : ∀ h', Heap.SameBut s.heap.objs.size (s.heap.push (setObj #[] 0 (.fresh 0 0 (!byText C.w)))) h' → WSet h' s.heap.objs.size l → Q (.ref s.heap.objs.size) { s with heap := h' } := fun h' sb hw => by
    have R' := R₁.change (tk := s.toks) (o' := .wset S) (AHeap.upd_self _ _ _) g0 (R₁.hp _ _ (AHeap.upd_self _ _ _)).2 set_not_tup (fun v q => nomatch q) sb.extBut fun t => ⟨⟨l, hw, hperm⟩, (R₁.hp _ _ (AHeap.upd_self _ _ _)).2⟩
    rw [upd_upd] at R'
    exact h _ _ (R.unheld (Nat.le_refl _)) ((Ext.push _ _).t.trans (TExt.but sb g0 set_not_tup)) R'
  show wpAny _ _ (setMerge s.heap.objs.size a >>= _) _ _ { s with heap := s.heap.push (setObj #[] 0 (.fresh 0 0 (!byText C.w))) }
  unfold setMerge
  have hne' : (s.heap.objs.size == a) = false := by simpa using Ne.symm hne
  rw [hne']
  simp only [Bool.false_eq_true, if_false]
  refine wpAny_bind (wpAny_bind (wpAny_setState_of ga rfl hfit ?_))
  dsimp only
  by_cases h0 : l = []
  · subst h0
    have : es = #[] := Array.eq_empty_of_size_eq_zero (by simpa using hlen)
    subst this
    simp only [Array.isEmpty_empty, if_true]
    refine wpAny_pure (wpAny_pure (fin _ (Heap.SameBut.refl _ _) ⟨#[], 0, _, g0, trivial, .nil, fun x hx => (nomatch hx), rfl⟩))
  · have hpos : 0 < l.length := List.length_pos_iff.mpr h0
    have hemp : es.isEmpty = false := by
      unfold Array.isEmpty
      exact decide_eq_false (by omega)
    rw [hemp]
    simp only [Bool.false_eq_true, if_false]
    unfold setRoomFor
    refine wpAny_bind (wpAny_bind (wpAny_setState_of g0 rfl rfl ?_))
    dsimp only
    by_cases hlt : l.length < 5
    · have hr : (SetTable.fresh 0 0 (!byText C.w)).roomFor es.size = none := by
        unfold SetTable.roomFor
        rw [if_neg]
        simp [SetTable.fresh, SetTable.fill]
        omega
      rw [hr]
      dsimp only
      refine wpAny_pure ?_
      refine wpAny_bind (wpAny_setState_of g0 rfl rfl ?_)
      dsimp only
      have hroad : (SetTable.fresh 0 0 (!byText C.w)).road (cfg (!byText C.w) l) = .slotForSlot := by
        unfold SetTable.road cfg
        rw [if_pos hlt]
        rfl
      rw [hroad]
      dsimp only
      refine wpAny_storeSet_of g0 rfl ?_ (by omega)
      refine wpAny_pure (fin _ (Heap.SameBut.update ..) ⟨es, _, _, put_set g0, r, hp, hm, ?_⟩)
      have := hfit
      unfold cfg at this ⊢
      exact this
    · have hl5 : l = five := by
        have : ∀ l ∈ subs five, ¬ l.length < 5 → l = five := by decide +kernel
        exact this l (sub5 hp hm) hlt
      subst hl5
      have he5 : es.size = 5 := hlen
      have hr : (SetTable.fresh 0 0 (!byText C.w)).roomFor es.size = some 10 := by
        rw [he5]; cases byText C.w <;> decide
      rw [hr]
      dsimp only
      have g1 := put_set (es' := #[]) (t' := { mask := 15, place := #[], dummies := #[], finger := 0, led := !byText C.w, moves := 1, plain := true }) g0
      refine relay_set (es' := #[]) (t' := { mask := 15, place := #[], dummies := #[], finger := 0, led := !byText C.w, moves := 1, plain := true }) (order := #[]) g0 rfl (by rw [hsz]; decide) (by cases byText C.w <;> decide +kernel) (by simp) rfl (by decide) ?_
      refine wpAny_bind (wpAny_setState_of g1 rfl rfl ?_)
      dsimp only
      have hroad : SetTable.road { mask := 15, place := #[], dummies := #[], finger := 0, led := !byText C.w, moves := 1, plain := true } (cfg (!byText C.w) five) = .clean := by cases byText C.w <;> decide
      rw [hroad]
      dsimp only
      have hh : es.map (·.1) = five.toArray := hashes_of r hm
      have ho := order_all es 5 he5
      rw [hh, laid_eq, lay_15.1]
      refine wpAny_bind ?_
      show wpAny _ _ (if _ then _ else _) _ _ _
      rw [if_neg (by show ¬ ((List.range 5).toArray.filterMap (fun x => es[x]?)).size != es.size; rw [ho]; simp)]
      refine wpAny_pure ?_
      dsimp only
      have ho' : Array.filterMap (fun x => es[x]?) #[0, 1, 2, 3, 4] = es := ho
      rw [ho']
      refine wpAny_storeSet_of g1 rfl ?_ (by omega)
      exact wpAny_pure (fin _ ((Heap.SameBut.update ..).trans (Heap.SameBut.update ..)) ⟨es, _, _, put_set g1, r, hp, hm, by rw [he5]; rfl⟩)
end
end Mine
end
section
open PySem PySem.W PyProof.Rows PySem.SeqAt
set_option maxRecDepth 10000
set_option autoImplicit false
set_option linter.unusedVariables false
namespace Mine
section
variable {C : Cx} {A : Around} {env : Env} {ρ : Loc} {H : AHeap} {s : Shared}
theorem SRep.isetAt {a : Addr} {S : List Int} (R : SRep C env ρ H s) (e : H a = some (.iset S) ∨ H a = some (.rset S)) : ∃ l, ISet C.w s.heap a l ∧ l.Perm S := by
  rcases e with e | e
  · exact (R.hp a _ e).1
  · exact (R.hp a _ e).1
theorem ISet.typed {a : Addr} {l : List Int} (x : ISet C.w s.heap a l) : s.TypeIs (.ref a) "set" := let ⟨_, _, g, _⟩ := x; ⟨_, g, rfl⟩
theorem TC_sdiff {a b : Addr} {S xs : List Int} {Q : AV → AHeap → Prop} (e : H a = some (.iset S) ∨ H a = some (.rset S)) (hb : H.items b = some (xs.map .int)) (h : ∀ r, H r = none → Q (.ref r) (H.upd r (.wset (xs.foldl List.erase S)))) :
    TC C (.builtin "set.difference") [.ref a, .ref b] H Q := fun A env ρ s vs ok R hv => by
  match vs, hv with
  | [va, vb], ⟨h1, h2, _⟩ =>
    obtain rfl := h1
    obtain rfl := h2
    have hT : s.TypeIs (.ref b) "list" := (R.listAt hb).isList.elim fun _ h => h.1.typeIs
    refine wpAny_call_entry PySem.F.slot_set_difference ((R.isetAt e).elim fun _ h => h.1.typed) entry_set_difference ?_ (PySem.F.args_set_difference_2 _ _)
    unfold Builtin.«frozenset.difference» Builtin.Frozenset.manyOthers
    simp only [List.isEmpty_nil]
    unfold Builtin.Frozenset.addrOf
    simp only [Bool.not_true, Bool.false_eq_true, if_false]
    refine wpAny_bind (wpAny_pure ?_)
    try dsimp only
    refine wpAny_bind ?_
    unfold Builtin.Frozenset.difference
    refine wpAny_bind (is_any hT noSet_list ?_ |> fun x => wpAny_mono x (fun _ _ h => h) fun _ _ x => x.elim)
    simp only [Bool.not_false, if_true]
    refine wpAny_bind (wpAny_typeOf hT ?_)
    have hd : (Value.type "list" != Value.type "dict") = true := by decide
    rw [hd]
    simp only [if_true]
    refine wpAny_bind (wpAny_mono (copy_set (C := C) (Q := fun v s' => ∃ r, v = .ref r ∧ H r = none ∧ TExt s.heap s'.heap ∧ SRep C env ρ (H.upd r (.wset S)) s') R (R.isetAt e) fun r s' h1 h2 h3 => ⟨r, rfl, h1, h2, h3⟩) ?_ fun _ _ x => x.elim)
    rintro v s' ⟨r, rfl, hr, t, R'⟩
    have hne : b ≠ r := fun q => by unfold AHeap.items at hb; rw [q, hr] at hb; cases hb
    unfold Builtin.Frozenset.addrOf
    refine wpAny_bind (wpAny_pure ?_)
    refine wpAny_bind (wpAny_holding ?_)
    refine wpAny_mono (diff_upd (C := C) (Q := fun _ s'' => TExt s'.heap s''.heap ∧ SRep C env ρ (H.upd r (.wset (xs.foldl List.erase S))) s'') (ok.within.in1.le (by decide)) R' (AHeap.upd_self _ _ _) (by unfold AHeap.items at hb ⊢; rw [AHeap.upd_ne _ _ hne]; exact hb) fun s'' t' R'' => ?_) ?_ fun _ _ x => x.elim
    · rw [upd_upd] at R''; exact ⟨t', R''⟩
    · rintro _ s'' ⟨t', R''⟩
      refine wpAny_pure ?_
      refine wpAny_bind (wpAny_holding ?_)
      simp only [List.forIn_nil]
      refine wpAny_bind (wpAny_pure (wpAny_pure ?_))
      exact wpAny_pure ⟨_, rfl, t.trans t', .ref r, _, rfl, R'', h r hr⟩

theorem quiet_int {x : Int} {t : Tok} {Q : Bool → Shared → Prop} (h : Q true s) : W C A (Builtin.Frozenset.quietEq (.int x t)) Q s := wpAny_pure h
theorem WSet.parts {h : Heap} {a : Addr} {l : List Int} (x : WSet h a l) : ∃ es ep t, h.get? a = some (setObj es ep t) ∧ IEnts es.toList l ∧ t.fits es.size = true ∧ es.size = l.length := by
  obtain ⟨es, ep, t, g, r, hp, hm, hf⟩ := x
  have hl := r.length
  rw [Array.length_toList] at hl
  exact ⟨es, ep, t, g, r, hf, hl⟩
theorem IEnts.mem {es : List (Int × Value)} {l : List Int} (r : IEnts es l) {e : Int × Value} (he : e ∈ es) : ∃ x t, e = (hashInt x, .int x t) ∧ x ∈ l := by
  induction l generalizing es with
  | nil => cases es with
    | nil => cases he
    | cons _ _ => exact r.elim
  | cons y ys ih => cases es with
    | nil => exact r.elim
    | cons f fs =>
      rcases List.mem_cons.mp he with rfl | he
      · obtain ⟨⟨t, e⟩, _⟩ := r; exact ⟨y, t, e, by simp⟩
      · obtain ⟨x, t, h1, h2⟩ := ih r.2 he; exact ⟨x, t, h1, by simp [h2]⟩
theorem walk_unseen {a b : Addr} {l m : List Int} {es : Array (Int × Value)} {ep : Nat} {t : SetTable} {Q : List (Int × Value) → Shared → Prop} (g : s.heap.get? a = some (setObj es ep t)) (r : IEnts es.toList l) (hf : t.fits es.size = true) (hb : WSet s.heap b m) (h : Q es.toList s) : W C A (Builtin.Frozenset.walkUnseen a b) Q s := by
  obtain ⟨es', ep', t', g', r', hf', _⟩ := hb.parts
  unfold Builtin.Frozenset.walkUnseen
  refine wpAny_bind (wpAny_setEntries_of g rfl hf ?_)
  refine wpAny_bind (wpAny_setEntries_of g' rfl hf' ?_)
  refine wpAny_bind ?_
  refine wpAny_forIn_list _ (fun rest b s' => b = (none, ()) ∧ s' = s ∧ ∀ e ∈ rest, e ∈ es.toList ++ es'.toList) _ ?_ ?_ _ _ ⟨rfl, rfl, fun e he => he⟩
  · rintro ⟨hh, x⟩ rest b s' ⟨rfl, rfl, hr⟩
    obtain ⟨y, u, he⟩ : ∃ y u, x = .int y u := by
      rcases List.mem_append.mp (hr _ (.head _)) with q | q
      · obtain ⟨y, u, e, _⟩ := r.mem q; exact ⟨y, u, congrArg Prod.snd e⟩
      · obtain ⟨y, u, e, _⟩ := r'.mem q; exact ⟨y, u, congrArg Prod.snd e⟩
    subst he
    dsimp only
    refine wpAny_bind (quiet_int ?_)
    simp only [Bool.not_true, Bool.false_eq_true, if_false]
    exact wpAny_pure ⟨rfl, rfl, fun e he => hr e (.tail _ he)⟩
  · rintro b s' ⟨rfl, rfl, _⟩
    exact wpAny_pure h

theorem dis_core {a b : Addr} {l m : List Int} {Q : Fin → Shared → Prop} (ha : WSet s.heap a l) (hb : WSet s.heap b m) (h : Q (.done (.ret (.bool (decide (∀ x ∈ l, x ∉ m))))) s) :
    W C A (do
      let was ← setEpoch a
      for (h, x) in ← Builtin.Frozenset.walkUnseen a b do
        if (← holding [x] (setFind b x h)).isSome then return ← ret (.bool false)
        Builtin.Frozenset.unchanged "frozenset.isdisjoint" a was
      return ← ret (.bool true) : Sem Fin) Q s := by
  obtain ⟨es, ep, t, g, r, hf, hsz⟩ := ha.parts
  refine wpAny_bind (wpAny_setEpoch_of g rfl hf ?_)
  refine wpAny_bind (walk_unseen g r hf hb ?_)
  refine wpAny_bind ?_
  refine wpAny_forIn_list _ (fun rest b s' => b = (none, ()) ∧ s' = s ∧ ∃ lr, IEnts rest lr ∧ (∀ x ∈ lr, x ∈ l) ∧ ∀ x ∈ l, x ∈ lr ∨ x ∉ m) _ ?_ ?_ _ _ ⟨rfl, rfl, l, r, fun _ h => h, fun _ h => .inl h⟩
  · rintro ⟨hh, x⟩ rest b' s' ⟨rfl, rfl, lr, hr, hsub, hall⟩
    cases lr with
    | nil => exact hr.elim
    | cons y ys =>
      obtain ⟨⟨u, he⟩, hr'⟩ := hr
      cases he
      dsimp only
      refine wpAny_bind (wpAny_holding (findI hb ?_))
      cases hfi : m.findIdx? (fun x => x == y) with
      | some j =>
        have hy : y ∈ m := by
          obtain ⟨hj, hpj, _⟩ := List.findIdx?_eq_some_iff_getElem.mp hfi
          have : m[j] = y := by simpa using hpj
          exact this ▸ List.getElem_mem hj
        simp only [Option.isSome_some, if_true]
        refine wpAny_bind ?_
        show wpAny _ _ (ret (Value.bool false)) _ _ _
        refine wpAny_pure ?_
        refine wpAny_pure ?_
        refine wpAny_pure ?_
        rw [decide_eq_false (fun q => q y (hsub y (by simp)) hy)] at h
        exact h
      | none =>
        have hy : y ∉ m := fun q => by have := List.findIdx?_eq_none_iff.mp hfi y q; simp at this
        simp only [Option.isSome_none, Bool.false_eq_true, if_false]
        unfold Builtin.Frozenset.unchanged
        refine wpAny_bind (wpAny_bind (wpAny_setEpoch_of g rfl hf ?_))
        simp only [bne_self_eq_false, Bool.false_eq_true, if_false]
        refine wpAny_pure ?_
        refine wpAny_pure ⟨rfl, rfl, ys, hr', fun x hx => hsub x (by simp [hx]), fun x hx => ?_⟩
        rcases hall x hx with q | q
        · rcases List.mem_cons.mp q with rfl | q
          · exact .inr hy
          · exact .inl q
        · exact .inr q
  · rintro b' s' ⟨rfl, rfl, lr, hr, hsub, hall⟩
    cases lr with
    | cons _ _ => exact hr.elim
    | nil =>
      dsimp only
      show wpAny _ _ (ret (Value.bool true)) _ _ _
      refine wpAny_pure ?_
      rw [decide_eq_true (fun x hx => (hall x hx).resolve_left (by simp))] at h
      exact h

theorem TC_isdisjoint {a b : Addr} {S T : List Int} {Q : AV → AHeap → Prop} (ha : H.ints a = some S) (hb : H.ints b = some T) (hne : a ≠ b) (h : Q (.bool (decide (∀ x ∈ S, x ∉ T))) H) :
    TC C (.builtin "set.isdisjoint") [.ref a, .ref b] H Q := fun A env ρ s vs ok R hv => by
  match vs, hv with
  | [va, vb], ⟨h1, h2, _⟩ =>
    obtain rfl := h1
    obtain rfl := h2
    obtain ⟨l, hl, pl⟩ := R.intsAt ha
    obtain ⟨m, hm, pm⟩ := R.intsAt hb
    obtain ⟨es, ep, t, g, r, hf, hsz⟩ := hl.parts
    obtain ⟨es', ep', t', g', r', hf', hsz'⟩ := hm.parts
    refine wpAny_call_entry PySem.F.slot_set_isdisjoint ⟨_, g, rfl⟩ entry_set_isdisjoint ?_ (PySem.F.args_set_isdisjoint_2 _ _)
    unfold Builtin.«frozenset.isdisjoint» Builtin.Frozenset.oneOther
    simp only [List.isEmpty_nil]
    unfold Builtin.Frozenset.addrOf
    refine wpAny_bind (wpAny_pure ?_)
    dsimp only
    have hq : (Value.ref b == Value.ref a) = false := by simpa using Ne.symm hne
    rw [hq]
    simp only [Bool.false_eq_true, if_false]
    refine wpAny_bind (wpAny_typeOf ⟨_, g', rfl⟩ ?_)
    have hd : (Value.type "set" == Value.type "set" || Value.type "set" == Value.type "frozenset") = true := by decide
    rw [hd]
    simp only [if_true]
    unfold Builtin.Frozenset.sizeOf
    refine wpAny_bind (wpAny_pure ?_)
    refine wpAny_bind (wpAny_bind (wpAny_setEntries_of g' rfl hf' (wpAny_pure ?_)))
    refine wpAny_bind (wpAny_bind (wpAny_setEntries_of g rfl hf (wpAny_pure ?_)))
    by_cases hc : es'.size > es.size
    · simp only [if_pos hc]
      refine wpAny_mono (dis_core (C := C) (Q := fun fin s' => fin = .done (.ret (.bool (decide (∀ x ∈ S, x ∉ T)))) ∧ s' = s) hl hm ⟨?_, rfl⟩) ?_ fun _ _ x => x
      · congr 3
        rw [decide_eq_decide]
        exact ⟨fun q x hx hx' => q x (pl.mem_iff.mpr hx) (pm.mem_iff.mpr hx'), fun q x hx hx' => q x (pl.mem_iff.mp hx) (pm.mem_iff.mp hx')⟩
      · rintro fin s' ⟨rfl, rfl⟩
        exact ⟨_, rfl, TExt.refl _, .bool _, H, rfl, R, h⟩
    · simp only [if_neg hc]
      refine wpAny_mono (dis_core (C := C) (Q := fun fin s' => fin = .done (.ret (.bool (decide (∀ x ∈ S, x ∉ T)))) ∧ s' = s) hm hl ⟨?_, rfl⟩) ?_ fun _ _ x => x
      · congr 3
        rw [decide_eq_decide]
        exact ⟨fun q x hx hx' => q x (pm.mem_iff.mpr hx') (pl.mem_iff.mpr hx), fun q x hx hx' => q x (pl.mem_iff.mp hx') (pm.mem_iff.mp hx)⟩
      · rintro fin s' ⟨rfl, rfl⟩
        exact ⟨_, rfl, TExt.refl _, .bool _, H, rfl, R, h⟩

/-! truth of a set -/
theorem TB_set {a : Addr} {S : List Int} {Q : Bool → AHeap → Prop} (e : H.ints a = some S) (h : Q (!S.isEmpty) H) : TB C (.ref a) H Q := fun A env ρ s va ok R hv => by
  obtain rfl := hv
  obtain ⟨l, hl, pl⟩ := R.intsAt e
  obtain ⟨es, ep, t, g, r, hf, hsz⟩ := hl.parts
  have h5 : l.length ≤ 5 := by
    obtain ⟨_, _, _, _, _, hp, hm, _⟩ := hl
    exact (lay_five l (sub5 hp hm)).2.2.2
  have hT : s.TypeIs (.ref a) "set" := ⟨_, g, rfl⟩
  have hne : ((es.size : Int) != 0) = !S.isEmpty := by
    rw [hsz, pl.length_eq]
    cases S <;> simp <;> omega
  have key : W C A (runValue (.builtin "len" ⟨[.ref a], []⟩)) (fun r s' => r = .int es.size (s.toks + 1) ∧ s' = { s with toks := s.toks + 1 + 1 }) s := by
    refine wpAny_runValue (codeAny_builtin entry_len ?_)
    rw [Around.under_plainId plain_len _]
    exact wpAny_mono (wpAny_len_body_set (Q := fun r s' => r = .int es.size (s.toks + 1) ∧ s' = { s with toks := s.toks + 1 + 1 }) g ⟨rfl, rfl, rfl⟩ rfl hf (by omega) ⟨rfl, rfl⟩)
      (fun fin s' h' => by obtain ⟨r, rfl, hq⟩ := h'; exact hq) fun _ _ e => e
  unfold truthy
  first
    | refine wpAny_bind (wpAny_callSpecial?_none (name := Str.ofString "__bool__") hT noBool_set ?_)
    | refine wpAny_bind (wpAny_pure (wpAny_bind (wpAny_callSpecial?_none (name := Str.ofString "__bool__") hT noBool_set ?_)))
  first
    | refine wpAny_bind (wpAny_specialOf (name := Str.ofString "__len__") hT PySem.F.slot_set_len.lookup ?_)
    | refine wpAny_bind (wpAny_pure (wpAny_bind (wpAny_specialOf (name := Str.ofString "__len__") hT PySem.F.slot_set_len.lookup ?_)))
  have fin : ∀ s', s' = { s with toks := s.toks + 1 + 1 } → (TExt s.heap s'.heap ∧ ∃ H', SRep C env ρ H' s' ∧ Q ((es.size : Int) != 0) H') := fun s' e => by
    subst e; rw [hne]; exact ⟨TExt.refl _, H, R.tok, h⟩
  first
    | exact wpAny_bind (wpAny_mono key (fun r s' h' => by obtain ⟨rfl, hq⟩ := h'; exact wpAny_pure (fin _ hq)) fun _ _ e => e)
    | exact wpAny_bind (wpAny_pure (wpAny_bind (wpAny_mono key (fun r s' h' => by obtain ⟨rfl, hq⟩ := h'; exact wpAny_pure (fin _ hq)) fun _ _ e => e)))
end
end Mine
end
section
open PySem PySem.W PyProof.Rows PySem.SeqAt
set_option maxRecDepth 10000
set_option autoImplicit false
set_option linter.unusedVariables false
namespace Mine
theorem pick_go {α : Type} (next : Nat → Nat) : ∀ (fuel k : Nat) (left : List α) (out : Array α), fuel = left.length → (pickOrder.go next fuel k left out).toList.Perm (out.toList ++ left)
  | 0, k, left, out, h => by
    obtain rfl : left = [] := List.eq_nil_of_length_eq_zero h.symm
    simp [pickOrder.go]
  | fuel + 1, k, left, out, h => by
    unfold pickOrder.go
    have hlt : next k % left.length < left.length := Nat.mod_lt _ (by omega)
    rw [List.getElem?_eq_getElem hlt]
    dsimp only
    refine (pick_go next fuel (k + 1) (left.eraseIdx (next k % left.length)) (out.push left[next k % left.length]) (by rw [List.length_eraseIdx, if_pos hlt]; omega)).trans ?_
    rw [Array.toList_push, List.append_assoc]
    refine List.Perm.append_left _ ?_
    have : (left[next k % left.length] :: left.eraseIdx (next k % left.length)).Perm left := by
      rw [List.eraseIdx_eq_take_drop_succ]
      refine List.perm_middle.symm.trans ?_
      rw [← List.drop_eq_getElem_cons hlt, List.take_append_drop]
    exact this
theorem pick_perm {α : Type} (next : Nat → Nat) (xs : Array α) : (pickOrder next xs).toList.Perm xs.toList := by
  unfold pickOrder
  exact pick_go next xs.size 0 xs.toList #[] (by simp)
theorem IEnts.perm {es fs : List (Int × Value)} (p : fs.Perm es) : ∀ {l : List Int}, IEnts es l → ∃ m, IEnts fs m ∧ m.Perm l := by
  induction p with
  | nil => intro l r; exact ⟨l, r, .refl _⟩
  | @cons x l1 l2 _ ih =>
    intro l r
    cases l with
    | nil => exact r.elim
    | cons y ys => obtain ⟨m, h1, h2⟩ := ih r.2; exact ⟨y :: m, ⟨r.1, h1⟩, h2.cons _⟩
  | swap x y l' =>
    intro l r
    match l, r with
    | a :: b :: ls, ⟨r1, r2, r3⟩ => exact ⟨b :: a :: ls, ⟨r2, r1, r3⟩, .swap _ _ _⟩
    | [_], ⟨_, r⟩ => exact r.elim
    | [], r => exact r.elim
  | trans p1 p2 ih1 ih2 =>
    intro l r
    obtain ⟨m, h1, h2⟩ := ih2 r
    obtain ⟨m', h3, h4⟩ := ih1 h1
    exact ⟨m', h3, h4.trans h2⟩

theorem entry_set_iter : entryFor table "set.__iter__" = some Builtin.«frozenset.__iter__» :=
  entryFor_alias (id' := "frozenset.__iter__") (by rw [fastTable_eq_tree]; kernel_rfl) rfl (by decide +kernel) (by rw [fastTable_eq_tree]; kernel_rfl)
theorem slot_setit : Slot "set_iterator" "__next__" "set_iterator.__next__" :=
  .of (owner := "set_iterator") (n := "__next__") (by rw [typeLookup_type, builtinLookup_eq_fast]; kernel_rfl) (by decide +kernel) (by decide +kernel) (by decide +kernel)
    (by first | exact .inl (by decide +kernel) | exact .inr (by decide +kernel)) (by rw [isSubtype_type]; kernel_rfl)
theorem entry_setit : entryFor table "set_iterator.__next__" = some Builtin.«set_iterator.__next__» := entryFor_of_tree (by kernel_rfl)
theorem args_setit (a : Value) : argsOk "set_iterator.__next__" ⟨[a], []⟩ := by unfold argsOk; kernel_rfl

abbrev setIt (a : Addr) (n ep slot i : Nat) : Obj := { cls := .type "set_iterator", data := .fields #[rawInt slot, rawInt i, .ref a, rawInt n, rawInt ep] }
/-- the slot where the next look begins -/
def slotOf (bt : Bool) (l : List Int) (i : Nat) : Nat := if bt then 0 else if i = 0 then 0 else (l.getD (i - 1) 0).toNat + 1
theorem slot_walk : ∀ l ∈ subs five, ∀ i ∈ List.range (l.length + 1), SetTable.below (l.map Int.toNat).toArray (slotOf false l i) = i := by decide +kernel

section
variable {C : Cx} {A : Around} {env : Env} {ρ : Loc} {H : AHeap} {s : Shared}
/-- the order in which a set is walked -/
def walkOf (w : World) (a : Addr) (ep : Nat) (es : Array (Int × Value)) : Array (Int × Value) := if byText w then pickOrder (w.params.setOrder a ep) es else es
theorem walk_perm (w : World) (a : Addr) (ep : Nat) (es : Array (Int × Value)) : (walkOf w a ep es).toList.Perm es.toList := by
  unfold walkOf; split
  · exact pick_perm _ _
  · exact .refl _
theorem set_next {a : Addr} {l : List Int} {es : Array (Int × Value)} {ep i : Nat} {Q : Option (Value × Nat) → Shared → Prop} (g : s.heap.get? a = some (setObj es ep (cfg (!byText C.w) l))) (r : IEnts es.toList l) (hp : l.Pairwise (· < ·)) (hm : ∀ x ∈ l, 0 ≤ x ∧ x < 5) (hi : i ≤ l.length)
    (h : Q (((walkOf C.w a ep es)[i]?).map fun e => (e.2, slotOf (byText C.w) l (i + 1))) s) : W C A (setNext a (slotOf (byText C.w) l i) i ep) Q s := by
  have hlen := r.length
  rw [Array.length_toList] at hlen
  have hfit : (cfg (!byText C.w) l).fits es.size = true := by rw [hlen]; exact cfg_fits hp hm
  unfold setNext
  refine wpAny_bind (wpAny_setState_of g rfl hfit ?_)
  dsimp only
  unfold setsByText
  refine wpAny_bind (wpAny_bind (wpAny_askSetting (wpAny_pure ?_)))
  dsimp only
  show wpAny _ _ (if byText C.w = true then _ else _) _ _ _
  cases hb : byText C.w with
  | true =>
    rw [if_pos rfl]
    simp only [bne_self_eq_false, Bool.false_eq_true, if_false]
    unfold setWalk setsByText
    refine wpAny_bind (wpAny_bind (wpAny_setState_of g rfl hfit ?_))
    dsimp only
    refine wpAny_bind (wpAny_bind (wpAny_askSetting (wpAny_pure ?_)))
    dsimp only
    show wpAny _ _ (if byText C.w = true then _ else _) _ _ _
    rw [if_pos hb]
    refine wpAny_bind (wpAny_askSetting (wpAny_pure ?_))
    refine wpAny_pure ?_
    have e1 : walkOf C.w a ep es = pickOrder (C.w.params.setOrder a ep) es := by unfold walkOf; rw [if_pos hb]
    have e2 : slotOf (byText C.w) l (i + 1) = slotOf true l i := by rw [hb]; rfl
    rw [e1, e2] at h
    exact h
  | false =>
    rw [if_neg (by decide)]
    have e1 : walkOf C.w a ep es = es := by unfold walkOf; rw [if_neg (by rw [hb]; decide)]
    rw [e1, hb] at h
    rw [hb] at g
    have hbel : SetTable.below (cfg (!false) l).place (slotOf false l i) = i := slot_walk l (sub5 hp hm) i (List.mem_range.mpr (by omega))
    show wpAny _ _ (if _ then _ else _) _ _ _
    rw [if_neg (by exact Bool.false_ne_true)]
    refine wpAny_bind ?_
    show wpAny _ _ (if _ then _ else _) _ _ _
    rw [if_neg (by exact Bool.false_ne_true)]
    refine wpAny_pure ?_
    rw [hbel]
    refine wpAny_pure ?_
    by_cases hlt : i < l.length
    · have h1 : es[i]? = some es[i] := Array.getElem?_eq_getElem (by omega)
      have h2 : (cfg (!false) l).place[i]? = some (l[i]).toNat := by
        show ((l.map Int.toNat).toArray)[i]? = _
        rw [List.getElem?_toArray, List.getElem?_map, List.getElem?_eq_getElem hlt]; rfl
      rw [h1] at h ⊢
      rw [h2]
      have e3 : slotOf false l (i + 1) = (l[i]).toNat + 1 := by
        unfold slotOf
        simp [List.getD_eq_getElem?_getD, List.getElem?_eq_getElem hlt]
      simp only [Option.map_some, e3] at h
      exact h
    · have h1 : es[i]? = none := Array.getElem?_eq_none (by omega)
      rw [h1] at h ⊢
      exact h

theorem SRep.rsetAt {a : Addr} {S : List Int} (R : SRep C env ρ H s) (e : H a = some (.rset S)) : ∃ l es ep, C.hB a = some (setObj es ep (cfg (!byText C.w) l)) ∧ s.heap.get? a = some (setObj es ep (cfg (!byText C.w) l)) ∧ IEnts es.toList l ∧ l.Pairwise (· < ·) ∧ (∀ x ∈ l, 0 ≤ x ∧ x < 5) ∧ l.Perm S := by
  obtain ⟨⟨l, ⟨es, ep, g, r, hp, hm⟩, hperm⟩, ob, hB, hM⟩ := R.hp a _ e
  have := (R.keep _ _ hB).exact hM.nf
  rw [g] at this
  cases this
  exact ⟨l, es, ep, hB, g, r, hp, hm, hperm⟩
theorem entry_setit_iter : entryFor table "set_iterator.__iter__" = some Builtin.«dict_keyiterator.__iter__» :=
  entryFor_alias (id' := "dict_keyiterator.__iter__") (by rw [fastTable_eq_tree]; kernel_rfl) rfl (by decide +kernel) (by rw [fastTable_eq_tree]; kernel_rfl)
theorem slot_setit_iter : Slot "set_iterator" "__iter__" "set_iterator.__iter__" :=
  .of (owner := "set_iterator") (n := "__iter__") (by rw [typeLookup_type, builtinLookup_eq_fast]; kernel_rfl) (by decide +kernel) (by decide +kernel) (by decide +kernel)
    (by first | exact .inl (by decide +kernel) | exact .inr (by decide +kernel)) (by rw [isSubtype_type]; kernel_rfl)
theorem args_setit_iter (a : Value) : argsOk "set_iterator.__iter__" ⟨[a], []⟩ := by unfold argsOk; kernel_rfl
theorem next_set {I a : Addr} {es : Array (Int × Value)} {ep : Nat} {l m : List Int} (r : IEnts es.toList l) (hp : l.Pairwise (· < ·)) (hm : ∀ x ∈ l, 0 ≤ x ∧ x < 5) (rm : IEnts (walkOf C.w a ep es).toList m) (hml : m.length = l.length) :
    NextR C.prog C.w I (m.map .int) (fun i ob => ob = setIt a es.size ep (slotOf (byText C.w) l i) i) (fun h => h.get? a = some (setObj es ep (cfg (!byText C.w) l))) where
  odd := fun i ob e => .of (T := "set_iterator") (vs := #[rawInt (slotOf (byText C.w) l i), rawInt i, .ref a, rawInt es.size, rawInt ep]) (by rw [e]) (by rw [e])
  ty := fun i ob e => ⟨"set_iterator", by rw [e], by decide⟩
  self := fun A s i ob Q g e h => by
    subst e
    refine wpAny_pyIter_slot ⟨_, g, rfl⟩ slot_setit_iter (wpAny_call_entry slot_setit_iter ⟨_, g, rfl⟩ entry_setit_iter ?_ (args_setit_iter _))
    show wpAny _ _ (ret (.ref I)) _ _ s
    exact wpAny_pure ⟨_, rfl, "set_iterator", _, ⟨_, g, rfl⟩, slot_setit.lookup, h⟩
  next := fun A s i ob ok g gI hob hi => by
    subst hob
    have hlen := r.length
    rw [Array.length_toList] at hlen
    have hfit : (cfg (!byText C.w) l).fits es.size = true := by rw [hlen]; exact cfg_fits hp hm
    have hwl : (walkOf C.w a ep es).size = l.length := by
      have := (walk_perm C.w a ep es).length_eq
      simp only [Array.length_toList] at this
      omega
    simp only [List.length_map] at hi
    have hodd : Odd (setIt a es.size ep (slotOf (byText C.w) l i) i) := .of (T := "set_iterator") rfl rfl
    unfold pyNext
    refine wpAny_bind (wpAny_attempt (wpAny_callSpecial?_slot (name := Str.ofString "__next__") ⟨_, gI, rfl⟩ slot_setit
      (wpAny_call_entry slot_setit ⟨_, gI, rfl⟩ entry_setit ?_ (args_setit _))))
    unfold Builtin.«set_iterator.__next__» slotArgs
    simp only [List.isEmpty_nil, Bool.not_true, Bool.false_eq_true, ↓reduceIte, List.length_nil, bne_self_eq_false]
    refine wpAny_bind (wpAny_pure ?_)
    dsimp only
    refine wpAny_bind (wpAny_fieldsOf gI rfl ?_)
    dsimp only [rawInt]
    refine wpAny_bind (wpAny_setEntries_of g rfl hfit ?_)
    simp only [bne_self_eq_false, Bool.false_eq_true, if_false, Int.toNat_natCast]
    refine wpAny_bind (wpAny_mono (set_next (C := C) (Q := fun r' s' => s' = s ∧ r' = ((walkOf C.w a ep es)[i]?).map fun e => (e.2, slotOf (byText C.w) l (i + 1))) g r hp hm (by omega) ⟨rfl, rfl⟩) ?_ fun _ _ x => x.elim)
    rintro r' s' ⟨rfl, rfl⟩
    by_cases hlt : i < m.length
    · obtain ⟨c, hc, hvc⟩ := (rm.values (h := s'.heap)).get (i := i) (v := .int (m[i])) (by simp [List.getElem?_eq_getElem hlt])
      have hw : ∃ e, (walkOf C.w a ep es)[i]? = some e ∧ e.2 = c := by
        rw [List.getElem?_map] at hc
        rw [← Array.getElem?_toList]
        cases q : (walkOf C.w a ep es).toList[i]? with
        | none => rw [q] at hc; cases hc
        | some e => rw [q] at hc; exact ⟨e, rfl, Option.some.inj hc⟩
      obtain ⟨e', he', hec⟩ := hw
      rw [he']
      dsimp only [Option.map_some]
      refine wpAny_bind (wpAny_setField_rec gI (by simp) fun h1 g1 sb1 => ?_)
      refine wpAny_bind (wpAny_setField_rec (s := { s' with heap := h1 }) g1 (by simp) fun h2 g2 sb2 => ?_)
      refine wpAny_pure ⟨_, rfl, wpAny_pure ?_⟩
      have t : TExt s'.heap h2 := TExt.other gI hodd.t (sb1.trans sb2).extBut
      refine ⟨⟨h2, s'.toks, rfl, (sb1.trans sb2).extBut⟩, .int m[i], _, by simp [List.getElem?_eq_getElem hlt], hec ▸ hvc.t t, g2, ?_⟩
      simp [setIt, rawInt]
    · have hw : (walkOf C.w a ep es)[i]? = none := Array.getElem?_eq_none (by omega)
      rw [hw]
      dsimp only [Option.map_none]
      refine wpAny_bind (wpAny_setField_rec gI (by simp) fun h1 g1 sb1 => ?_)
      refine wpAny_bind ?_
      simp only [newExc, newTuple]
      refine wpAny_bind (wpAny_newObj_type ?_ (by size_fits))
      refine wpAny_bind (m := firstArgMember _ _) (wpAny_of_eq (a := Value.none) (by first | rfl | (simp only [firstArgMember]; rfl)) ?_)
      refine wpAny_newObj_type ?_ (by size_fits)
      simp only [raiseNew]
      refine wpAny_bind (wpAny_handled ?_)
      rw [show A.in1.handled = none from ok.handled]
      refine wpAny_bind (wpAny_pure (wpAny_throw ?_))
      refine wpAny_bind (wpAny_isInstance (T := "StopIteration") (b := true) ⟨_, Heap.get?_push_size _ rfl, rfl⟩ isSubtype_stop ?_)
      exact wpAny_pure ⟨⟨_, s'.toks, rfl, (sb1.extBut.push _).push _⟩, by simp; omega⟩
theorem iter_rset {a : Addr} {S : List Int} (e : H a = some (.rset S)) : IterSome C (.ref a) H (fun xs => ∃ m : List Int, xs = m.map .int ∧ m.Perm S) (fun H' => H' a = some (.rset S)) := fun A env ρ s c ok R hv => by
  obtain rfl := hv
  obtain ⟨l, es, ep, hB, g, r, hp, hm, hperm⟩ := R.rsetAt e
  have hlen := r.length
  rw [Array.length_toList] at hlen
  have hfit : (cfg (!byText C.w) l).fits es.size = true := by rw [hlen]; exact cfg_fits hp hm
  have hT : s.TypeIs (.ref a) "set" := ⟨_, g, rfl⟩
  obtain ⟨m, rm, pm⟩ := r.perm (walk_perm C.w a ep es)
  have hwl : (walkOf C.w a ep es).size = l.length := by
    have := (walk_perm C.w a ep es).length_eq
    simp only [Array.length_toList] at this
    omega
  have hml : m.length = l.length := pm.length_eq
  refine wpAny_pyIter_slot hT PySem.F.slot_set_iter (wpAny_call_entry PySem.F.slot_set_iter hT entry_set_iter ?_ (PySem.F.args_set_iter_1 _))
  unfold Builtin.«frozenset.__iter__» Builtin.Frozenset.slot0 slotArgs
  simp only [List.isEmpty_nil, Bool.not_true, Bool.false_eq_true, ↓reduceIte, List.length_nil, bne_self_eq_false]
  unfold Builtin.Frozenset.addrOf Builtin.Frozenset.sizeOf
  refine wpAny_bind (wpAny_bind (wpAny_pure (wpAny_pure ?_)))
  refine wpAny_bind (wpAny_bind (wpAny_setEntries_of g rfl hfit (wpAny_pure ?_)))
  refine wpAny_bind ?_
  unfold setDrawn setsByText
  refine wpAny_bind (wpAny_setState_of g rfl hfit ?_)
  dsimp only
  refine wpAny_bind (wpAny_bind (wpAny_askSetting (wpAny_pure ?_)))
  refine wpAny_pure ?_
  have hnd : ∀ b : Bool, (!b && (!(cfg (!byText C.w) l).plain && decide (es.size > 1))) = false := fun b => by cases b <;> rfl
  show wpAny _ _ (if (!byText C.w && (!(cfg (!byText C.w) l).plain && decide (es.size > 1))) = true then _ else _) _ _ _
  rw [hnd]
  simp only [Bool.false_eq_true, if_false]
  refine wpAny_bind (wpAny_pure ?_)
  refine wpAny_bind (wpAny_setEpoch_of g rfl hfit ?_)
  unfold newFields
  refine wpAny_bind (wpAny_newObj_type (wpAny_pure ?_))
  have hK0 : ∀ (l : List Int), slotOf (byText C.w) l 0 = 0 := fun l => by unfold slotOf; split <;> rfl
  have hnx : NextR C.prog C.w s.heap.objs.size (m.map .int) (fun i ob => ob = setIt a es.size ep (slotOf (byText C.w) l i) i) (fun h => h.get? a = some (setObj es ep (cfg (!byText C.w) l))) := next_set r hp hm rm hml
  refine ⟨_, rfl, "set_iterator", _, ⟨_, Heap.get?_push_size _ rfl, rfl⟩, slot_setit.lookup, (Ext.push _ _).t, R.to (tk := s.toks) (Ext.push _ _), s.heap.objs.size, setIt a es.size ep (slotOf (byText C.w) l 0) 0, fun i ob => ob = setIt a es.size ep (slotOf (byText C.w) l i) i, m.map .int, ⟨m, rfl, pm.trans hperm⟩, rfl, R.freshAt (Nat.le_refl _), ?_, rfl, hnx.of fun env ρ H s R _ => (R.keep _ _ hB).exact (Main.nf (.inr (.inl rfl))), ⟨_, s.toks, rfl, Ext.push _ _⟩, Nat.le_refl _, _, hnx, fun h' hx => (hx a _ (Nat.ne_of_lt (Heap.lt_size g)) (Heap.get?_push_of_some _ g)).exact (Main.nf (.inr (.inl rfl)))⟩
  rw [hK0]; exact Heap.get?_push_size _ rfl
end
end Mine
end
section
open PySem PySem.W PyProof.Rows PySem.SeqAt
set_option maxRecDepth 10000
set_option autoImplicit false
set_option linter.unusedVariables false
namespace Mine
section
variable {C : Cx} {A : Around} {env : Env} {ρ : Loc} {H : AHeap} {s : Shared}
theorem list_push {S : Addr} {ys : List AV} {x : AV} {c : Value} {Q : Unit → Shared → Prop} {E : Value → Shared → Prop} (R : SRep C env ρ H s) (e : H S = some (.list ys)) (hl : ys.length < sizeLine) (hx : VRep s.heap x c)
    (h : ∀ s', TExt s.heap s'.heap → SRep C env ρ (H.upd S (.list (ys ++ [x]))) s' → (∀ b o, b ≠ S → s.heap.get? b = some o → s'.heap.get? b = some o) → Q () s') :
    wpAny (model C.prog C.w) A (Builtin.List.listUpdate (.ref S) (·.push c)) Q E s := by
  obtain ⟨hn, items, n, g, hr⟩ := R.own e
  have hle := hr.length
  simp at hle
  refine listUpdate_at g rfl ?_ (by omega) (by rw [Array.size_push]; omega)
  obtain ⟨t, R'⟩ := list_change (f := fun y => y.push c) (ys := ys ++ [x]) (tk := s.toks) R e g fun h' t => by
    rw [Array.toList_push]; exact (hr.t t).append ⟨hx.t t, trivial⟩
  exact h _ t R' fun b o hb q => (Heap.get?_update_other _ _ (Ne.symm hb)).trans q
/-- a list takes the items of an iterator -/
theorem ext_loop {I S : Addr} {xs : List AV} {Kt : Nat → Obj → Prop} {src : AHeap → Prop} (res : Value) (hn : NextOf C I xs Kt src) (hsrc : ∀ H ys, src H → src (H.upd S (.list ys))) {R : Result → Shared → Prop} :
    ∀ (n i : Nat) (ys : List AV) (H : AHeap) (s : Shared) (ob : Obj), xs.length - i = n → i ≤ xs.length → AIn 20 A → SRep C env ρ H s → H S = some (.list ys) → src H → Free C env H I → s.heap.get? I = some ob → Kt i ob → ys.length + n < sizeLine →
      (∀ s', TExt s.heap s'.heap → SRep C env ρ (H.upd S (.list (ys ++ xs.drop i))) s' → R (.ok (.ret res)) s') →
      codeAny (model C.prog C.w) A (.builtin "list.extend.loop" ⟨[.ref S, .ref I, res], []⟩) R s := by
  intro n
  induction n with
  | zero =>
    intro i ys H s ob hni hi hA hR hH hs hF hg hK hlen hq
    refine codeAny_builtin PySem.F.entry_extend_loop ?_
    rw [Around.under_plainId PySem.F.plain_extend_loop _]
    show wpAny _ A.in1 (pyNext (.ref I) >>= _) _ _ s
    refine wpAny_bind (wpAny_mono (hn.2.2 A.in1 env ρ H s i ob (hA.in1.le (by decide)) hR hs hF hg hK hi) (fun r s' ⟨t, R', hr⟩ => ?_) fun _ _ x => x.elim)
    cases r with
    | none =>
      show wpAny _ A.in1 (ret res) _ _ s'
      refine wpAny_pure (hq s' t ?_)
      rw [List.drop_of_length_le (by omega), List.append_nil, upd_same hH]; exact R'
    | some c =>
      obtain ⟨v, ob', hv, _⟩ := hr
      have := (List.getElem?_eq_some_iff.mp hv).1
      omega
  | succ n ih =>
    intro i ys H s ob hni hi hA hR hH hs hF hg hK hlen hq
    have hlt : i < xs.length := by omega
    refine codeAny_builtin PySem.F.entry_extend_loop ?_
    rw [Around.under_plainId PySem.F.plain_extend_loop _]
    show wpAny _ A.in1 (pyNext (.ref I) >>= _) _ _ s
    refine wpAny_bind (wpAny_mono (hn.2.2 A.in1 env ρ H s i ob (hA.in1.le (by decide)) hR hs hF hg hK hi) (fun r s' ⟨t, R', hr⟩ => ?_) fun _ _ x => x.elim)
    cases r with
    | none => omega
    | some c =>
      obtain ⟨v, ob', hv, hvc, hg', hK'⟩ := hr
      have hF' : I ≠ S := hF.ne hH
      show wpAny _ A.in1 (Builtin.List.listUpdate (.ref S) (·.push c) >>= _) _ _ s'
      refine wpAny_bind (list_push R' hH (by omega) hvc fun s'' t' R'' hk => ?_)
      refine wpAny_pure ⟨plainId_quiet PySem.F.plain_extend_loop _, ih (i + 1) (ys ++ [v]) (H.upd S (.list (ys ++ [v]))) s'' ob' (by omega) (by omega) hA R'' (AHeap.upd_self _ _ _) (hsrc _ _ hs) (hF.upd hF') (hk _ _ hF' hg') hK' (by simp; omega) fun s₃ t₃ R₃ => hq s₃ ((t.trans t').trans t₃) ?_⟩
      rw [upd_upd] at R₃
      rw [List.drop_eq_getElem_cons hlt]
      have : xs[i] = v := by rw [List.getElem?_eq_getElem hlt] at hv; exact Option.some.inj hv
      rw [this]; simpa using R₃

/-- a new list -/
theorem new_list {vs : List Value} {xs : List AV} {n : Nat} (R : SRep C env ρ H s) (hv : VReps s.heap xs vs) : SRep C env ρ (H.upd s.heap.objs.size (.list xs)) { s with heap := s.heap.push (listOf vs.toArray n) } :=
  R.alloc (tk := s.toks) (ao := .list xs) fun hn => ⟨⟨_, _, Heap.get?_push_size _ rfl, by simpa using hv.t (Ext.push _ _).t⟩, hn⟩
theorem touch_list {S : Addr} {ys : List AV} {Q : Unit → Shared → Prop} {E : Value → Shared → Prop} (R : SRep C env ρ H s) (e : H S = some (.list ys)) (hl : ys.length < sizeLine)
    (h : ∀ s', TExt s.heap s'.heap → SRep C env ρ H s' → (∀ b o, b ≠ S → s.heap.get? b = some o → s'.heap.get? b = some o) → Q () s') :
    wpAny (model C.prog C.w) A (Builtin.List.listTouch (.ref S)) Q E s := by
  unfold Builtin.List.listTouch
  refine wpAny_bind (list_push R e hl (x := .none) rfl fun s₁ t₁ R₁ k₁ => ?_)
  obtain ⟨hn, items, n, g, hr⟩ := R₁.own (AHeap.upd_self _ _ _)
  have hle := hr.length
  simp at hle
  refine listUpdate_at g rfl ?_ (by omega) (by simp; omega)
  obtain ⟨t, R'⟩ := list_change (f := fun y => y.pop) (ys := ys) (tk := s₁.toks) R₁ (AHeap.upd_self _ _ _) g fun h' t => by
    have := (hr.t t).take ys.length
    rw [List.take_left] at this
    rw [Array.toList_pop, List.dropLast_eq_take]
    have e2 : items.toList.length - 1 = ys.length := by simp; omega
    rw [e2]; exact this
  rw [upd_upd, upd_same e] at R'
  exact h _ (t₁.trans t) R' fun b o hb q => (Heap.get?_update_other _ _ (Ne.symm hb)).trans (k₁ b o hb q)

/-- what an iterable that is no list gives, put behind a list's own items -/
theorem ext_with {S : Addr} {ys : List AV} {v : AV} {c res : Value} {T : String} {Vals : List AV → Prop} {src : AHeap → Prop} {R : Result → Shared → Prop} (hA : AIn 22 A) (hR : SRep C env ρ H s) (hS : H S = some (.list ys)) (hv : VRep s.heap v c) (hT : ∀ s' : Shared, TExt s.heap s'.heap → SRep C env ρ H s' → s'.TypeIs c T)
    (h1 : (Value.type T == Value.type "list") = false) (h2 : (Value.type T == Value.type "tuple") = false) (hne : c ≠ .ref S) (hs : src H) (hit : IterSome C v H Vals src) (hsrc : ∀ H ys, src H → src (H.upd S (.list ys)))
    (hint : ∀ (s' : Shared) (Q : Bool → Shared → Prop), TExt s.heap s'.heap → SRep C env ρ H s' → (∀ b, Q b s') → W C A.in1 (Builtin.List.listLengthHint c) Q s')
    (hlen : ∀ xs, Vals xs → ys.length + xs.length < sizeLine)
    (h : ∀ xs s', Vals xs → TExt s.heap s'.heap → SRep C env ρ (H.upd S (.list (ys ++ xs))) s' → R (.ok (.ret res)) s') :
    wpAny (model C.prog C.w) A.in1 (Builtin.List.listExtendWith (.ref S) c res)
      (fun fin s' => match fin with | .done f => R (.ok f) s' | .again c' => c'.quiet = true ∧ codeAny (model C.prog C.w) A c' R s') (fun e s' => R (.error e) s') s := by
  unfold Builtin.List.listExtendWith
  refine wpAny_bind (wpAny_typeOf (hT s (TExt.refl _) hR) ?_)
  have hsame : Builtin.List.listSameRef (.ref S) c = false := by
    unfold Builtin.List.listSameRef
    cases c with
    | ref b => simp only; by_cases q : S = b
               · exact absurd (by rw [q]) hne
               · simpa using q
    | _ => rfl
  simp only [hsame, h1, h2, Bool.or_false, Bool.false_eq_true, if_false]
  refine wpAny_bind (wpAny_mono (hit A.in1 env ρ s c (hA.in1.le (by decide)) hR hv) (fun it s₁ ⟨t, R₁, I, ob, Kt, xs, hV, e, F, g, hK, hn, _⟩ => ?_) fun _ _ x => x.elim)
  subst e
  refine wpAny_bind (wpAny_holding (wpAny_mono (hint s₁ (fun _ s' => s' = s₁) t R₁ fun b => rfl) (fun room s₂ e => ?_) fun _ _ x => x.elim))
  subst e
  have key : ∀ s₃, TExt s₂.heap s₃.heap → SRep C env ρ H s₃ → s₃.heap.get? I = some ob → codeAny (model C.prog C.w) A (.builtin "list.extend.loop" ⟨[.ref S, .ref I, res], []⟩) R s₃ := fun s₃ t₃ R₃ g₃ =>
    ext_loop res hn hsrc xs.length 0 ys H s₃ ob (by omega) (by omega) (hA.le (by decide)) R₃ hS hs F g₃ hK (hlen xs hV) fun s' t' R' => h xs s' hV ((t.trans t₃).trans t') (by simpa using R')
  refine wpAny_ite_split (fun _ => ?_) (fun _ => wpAny_pure ⟨plainId_quiet PySem.F.plain_extend_loop _, key s₂ (TExt.refl _) R₁ g⟩)
  refine wpAny_bind (wpAny_rule (wpAny_bind ?_))
  refine touch_list R₁ hS (by have := hlen xs hV; omega) fun s₃ t₃ R₃ k₃ => ?_
  exact wpAny_pure ⟨plainId_quiet PySem.F.plain_extend_loop _, key s₃ t₃ R₃ (k₃ _ _ (F.ne hS) g)⟩

theorem SRep.less {H' : AHeap} (R : SRep C env ρ H s) (h : ∀ a o, H' a = some o → H a = some o) : SRep C env ρ H' s where
  keep := R.keep
  fr := R.fr
  sep := by
    cases e : H' env.locals with
    | none => rfl
    | some o => have := h _ _ e; rw [R.sep] at this; cases this
  hp := fun a o e => R.hp a o (h a o e)
  gens := R.gens
  os := R.os
theorem plain_coll : plainId "proto.collect" = true := by decide +kernel
theorem plain_iadd : plainId "list.__iadd__" = true := by decide +kernel
theorem collect_with {v : AV} {c : Value} {T : String} {Vals : List AV → Prop} {src : AHeap → Prop} {Q : List Value → Shared → Prop} (hA : AIn 25 A) (hR : SRep C env ρ H s) (hv : VRep s.heap v c) (hT : ∀ (H : AHeap) (s' : Shared), src H → SRep C env ρ H s' → s'.TypeIs c T)
    (h1 : (Value.type T == Value.type "list") = false) (h2 : (Value.type T == Value.type "tuple") = false) (hs : src H) (hlt : ∀ n, c = .ref n → n < s.heap.objs.size) (hit : ∀ H, src H → IterSome C v H Vals src) (hsrc : ∀ H S ys, c ≠ .ref S → src H → src (H.upd S (.list ys)))
    (hint : ∀ (A : Around) (H : AHeap) (s' : Shared) (Q : Bool → Shared → Prop), src H → SRep C env ρ H s' → (∀ b, Q b s') → W C A (Builtin.List.listLengthHint c) Q s')
    (hlen : ∀ xs, Vals xs → xs.length < sizeLine)
    (h : ∀ vs xs s', Vals xs → TExt s.heap s'.heap → SRep C env ρ H s' → VReps s'.heap xs vs → Q vs s') : W C A (collect c) Q s := by
  unfold collect
  have hne : c ≠ .ref s.heap.objs.size := fun q => Nat.lt_irrefl _ (hlt _ q)
  refine wpAny_bind (wpAny_runValue (codeAny_mono (R := fun r s' => r = .ok (.ret (.ref s.heap.objs.size)) ∧ ∃ xs, Vals xs ∧ TExt s.heap s'.heap ∧ SRep C env ρ (H.upd s.heap.objs.size (.list xs)) s') (codeAny_builtin entry_proto_collect' ?_) fun r s' hr => ?_))
  rotate_left
  · obtain ⟨rfl, xs, hV, t, R'⟩ := hr
    obtain ⟨hn, items, n, g, hr⟩ := R'.own (AHeap.upd_self _ _ _)
    dsimp only
    refine wpAny_bind (wpAny_load g ?_)
    exact wpAny_pure (h items.toList xs s' hV t (R'.less fun a o e => by
      have : a ≠ s.heap.objs.size := fun q => by rw [q, hR.unheld (Nat.le_refl _)] at e; cases e
      rw [AHeap.upd_ne _ _ this]; exact e) (by simpa using hr))
  rw [Around.under_plainId plain_coll _]
  show wpAny _ _ (do again (.builtin "list.__iadd__" ⟨[← newList [], c], []⟩)) _ _ s
  refine wpAny_bind (wpAny_newList (wpAny_pure ⟨Code.quiet_builtin _ (by decide +kernel), codeAny_builtin entry_list_iadd' ?_⟩))
  rw [Around.under_plainId plain_iadd _]
  show wpAny _ _ (Builtin.List.listExtendWith (.ref s.heap.objs.size) c (.ref s.heap.objs.size)) _ _ { s with heap := s.heap.push (listOf #[] 0) }
  have R₁ := new_list (n := 0) hR (xs := []) (vs := []) trivial
  have hs₁ : src (H.upd s.heap.objs.size (.list [])) := hsrc _ _ _ hne hs
  have t₁ : TExt s.heap (s.heap.push (listOf #[] 0)) := (Ext.push _ _).t
  refine ext_with (R := fun r s' => r = .ok (.ret (.ref s.heap.objs.size)) ∧ ∃ xs, Vals xs ∧ TExt s.heap s'.heap ∧ SRep C env ρ (H.upd s.heap.objs.size (.list xs)) s') (hA.le (by decide)) R₁ (AHeap.upd_self _ _ _) (hv.t t₁) (fun s' _ R' => hT _ s' hs₁ R') h1 h2 hne hs₁ (hit _ hs₁) (fun H' ys q => hsrc _ _ _ hne q) (fun s' Q' _ R' hq => hint _ _ s' Q' hs₁ R' hq) (fun xs hV => by simpa using hlen xs hV) fun xs s' hV t R' => ?_
  rw [upd_upd] at R'
  exact ⟨rfl, xs, hV, t₁.trans t, R'⟩
end
end Mine
end
section
open PySem PySem.W PyProof.Rows PySem.SeqAt
set_option maxRecDepth 100000
set_option autoImplicit false
set_option linter.unusedVariables false
namespace Mine
theorem slot_dd_init : Slot "collections.defaultdict" "__init__" "collections.defaultdict.__init__" :=
  .of (owner := "collections.defaultdict") (n := "__init__") (by rw [typeLookup_type, builtinLookup_eq_fast]; kernel_rfl) (by decide +kernel) (by decide +kernel) (by decide +kernel)
    (by first | exact .inl (by decide +kernel) | exact .inr (by decide +kernel)) (by rw [isSubtype_type]; kernel_rfl)
theorem slot_dd_getitem : Slot "collections.defaultdict" "__getitem__" "dict.__getitem__" :=
  .of (owner := "dict") (n := "__getitem__") (by rw [typeLookup_type, builtinLookup_eq_fast]; kernel_rfl) (by decide +kernel) (by decide +kernel) (by decide +kernel)
    (by first | exact .inl (by decide +kernel) | exact .inr (by decide +kernel)) (by rw [isSubtype_type]; kernel_rfl)
theorem slot_dd_iter : Slot "collections.defaultdict" "__iter__" "dict.__iter__" :=
  .of (owner := "dict") (n := "__iter__") (by rw [typeLookup_type, builtinLookup_eq_fast]; kernel_rfl) (by decide +kernel) (by decide +kernel) (by decide +kernel)
    (by first | exact .inl (by decide +kernel) | exact .inr (by decide +kernel)) (by rw [isSubtype_type]; kernel_rfl)
theorem slot_dd_missing : Slot "collections.defaultdict" "__missing__" "collections.defaultdict.__missing__" :=
  .of (owner := "collections.defaultdict") (n := "__missing__") (by rw [typeLookup_type, builtinLookup_eq_fast]; kernel_rfl) (by decide +kernel) (by decide +kernel) (by decide +kernel)
    (by first | exact .inl (by decide +kernel) | exact .inr (by decide +kernel)) (by rw [isSubtype_type]; kernel_rfl)
theorem mro_dd : mroOf (.type "collections.defaultdict") = pure [.type "collections.defaultdict", .type "dict", .type "object"] := by rw [mroOf_type]; kernel_rfl
theorem lookup_dd_new : typeLookup (.type "collections.defaultdict") "__new__" = pure (some (.builtin "dict.__new__")) := by rw [typeLookup_type, builtinLookup_eq_fast]; kernel_rfl
theorem called_dd : TypeCalled "collections.defaultdict" "dict.__new__" "collections.defaultdict.__init__" :=
  ⟨by decide +kernel, by decide +kernel, ⟨_, _, mro_dd⟩, madeBy_type mro_dd lookup_dd_new (by decide +kernel), by decide +kernel, by rw [isSubtype_type]; kernel_rfl, slot_dd_init⟩
theorem sub_dd_dict : isSubtype (.type "collections.defaultdict") (.type "dict") = pure true := by rw [isSubtype_type]; kernel_rfl
theorem typeCall_dd (a : Value) : checkTypeCall "collections.defaultdict" ⟨[a], []⟩ = pure () := by kernel_rfl
theorem newCall_dd (a : Value) : checkBuiltinCall "dict.__new__" ⟨[.type "collections.defaultdict", a], []⟩ = pure () := by kernel_rfl
theorem entry_dict_new : entryFor table "dict.__new__" = some Builtin.«dict.__new__» := entryFor_of_tree (by kernel_rfl)
theorem entry_dd_init : entryFor table "collections.defaultdict.__init__" = some Builtin.«collections.defaultdict.__init__» := entryFor_of_tree (by kernel_rfl)
theorem entry_dd_missing : entryFor table "collections.defaultdict.__missing__" = some Builtin.«collections.defaultdict.__missing__» := entryFor_of_tree (by kernel_rfl)
theorem entry_dict_init : entryFor table "dict.__init__" = some Builtin.«dict.__init__» := entryFor_of_tree (by kernel_rfl)
theorem entry_dict_setdefault : entryFor table "dict.setdefault" = some Builtin.«dict.setdefault» := entryFor_of_tree (by kernel_rfl)
theorem entry_dict_getitem' : entryFor table "dict.__getitem__" = some Builtin.«dict.__getitem__» := entryFor_of_tree (by kernel_rfl)
theorem entry_dict_iter' : entryFor table "dict.__iter__" = some Builtin.«dict.__iter__» := entryFor_of_tree (by kernel_rfl)
theorem args_dd_missing (a b : Value) : argsOk "collections.defaultdict.__missing__" ⟨[a, b], []⟩ := by unfold argsOk; kernel_rfl
theorem args_dict_iter' (a : Value) : argsOk "dict.__iter__" ⟨[a], []⟩ := by unfold argsOk; kernel_rfl
theorem args_dict_getitem' (a b : Value) : argsOk "dict.__getitem__" ⟨[a, b], []⟩ := by unfold argsOk; kernel_rfl
theorem args_dd_init (a b : Value) : argsOk "collections.defaultdict.__init__" ⟨[a, b], []⟩ := by unfold argsOk; kernel_rfl
theorem plain_dict_init : plainId "dict.__init__" = true := by decide +kernel
theorem plain_setdefault : plainId "dict.setdefault" = true := by decide +kernel
theorem sub_dd_od : isSubtype (.type "collections.defaultdict") (.type "collections.OrderedDict") = pure false := by rw [isSubtype_type]; kernel_rfl
theorem special_set_call (s : Shared) : specialOf (.type "set") "__call__" = (do let t ← typeOf (.type "set"); typeLookup t "__call__") := rfl
end Mine
end
section
open PySem PySem.W PyProof.Rows PySem.SeqAt
set_option maxRecDepth 10000
set_option autoImplicit false
set_option linter.unusedVariables false
namespace Mine
theorem DDEnts.keys {prog : Program} {w : World} : ∀ {es : List DictEntry} {l : List (Int × Addr)}, DDEnts es l → ∀ e ∈ es, ∃ k, (intKind prog w).is k e.key = true ∧ e.hash = (intKind prog w).hash k
  | [], [], _ => fun e he => nomatch he
  | _ :: _, p :: _, ⟨⟨t, e⟩, r⟩ => fun f hf => by
    rcases List.mem_cons.mp hf with rfl | hf
    · subst e; exact ⟨p.1, intKind_is _ _ _ _, rfl⟩
    · exact r.keys f hf
  | [], _ :: _, x => x.elim
  | _ :: _, [], x => x.elim
theorem DDEnts.find {prog : Program} {w : World} (k : Int) : ∀ {es : List DictEntry} {l : List (Int × Addr)}, DDEnts es l → match es.findIdx? (fun e => (intKind prog w).is k e.key) with
    | some i => ∃ b, l.lookup k = some b ∧ (es[i]?).map (·.val) = some (.ref b)
    | none => l.lookup k = none
  | [], [], _ => rfl
  | _ :: es, p :: l, ⟨⟨t, e⟩, r⟩ => by
    subst e
    rw [List.findIdx?_cons]
    show match (if (intKind prog w).is k (Value.int p.1 t) = true then some 0 else Option.map (fun i => i + 1) (es.findIdx? _)) with | some i => _ | none => _
    rw [int_is]
    by_cases q : p.1 = k
    · have hb : (p.1 == k) = true := by simpa using q
      rw [hb]
      simp only [if_true]
      refine ⟨p.2, ?_, rfl⟩
      rw [List.lookup_cons, show (k == p.1) = true by simpa using q.symm]
    · have hb : (p.1 == k) = false := by simpa using q
      rw [hb]
      simp only [Bool.false_eq_true, if_false]
      have ih := r.find (prog := prog) (w := w) k
      have hl : (p :: l).lookup k = l.lookup k := by
        rw [List.lookup_cons, show (k == p.1) = false by simpa using fun h => q h.symm]
      cases hr : es.findIdx? (fun e => (intKind prog w).is k e.key) with
      | none => rw [hr] at ih; simp only [Option.map_none]; rw [hl]; exact ih
      | some i =>
        rw [hr] at ih
        obtain ⟨b, h1, h2⟩ := ih
        simp only [Option.map_some]
        exact ⟨b, by rw [hl]; exact h1, by simpa using h2⟩
  | [], _ :: _, x => x.elim
  | _ :: _, [], x => x.elim
theorem DDEnts.push : ∀ {es : List DictEntry} {l : List (Int × Addr)} {k : Int} {t : Tok} {b : Addr}, DDEnts es l → DDEnts (es ++ [⟨hashInt k, .int k t, .ref b⟩]) (l ++ [(k, b)])
  | [], [], k, t, b, _ => ⟨⟨t, rfl⟩, trivial⟩
  | _ :: _, _ :: _, k, t, b, x => ⟨x.1, x.2.push⟩
  | [], _ :: _, _, _, _, x => x.elim
  | _ :: _, [], _, _, _, x => x.elim
theorem DDEnts.length : ∀ {es : List DictEntry} {l : List (Int × Addr)}, DDEnts es l → es.length = l.length
  | [], [], _ => rfl
  | _ :: _, _ :: _, x => congrArg (· + 1) x.2.length
  | [], _ :: _, x => x.elim
  | _ :: _, [], x => x.elim
theorem lookup_of_mem {k : Int} : ∀ {l : List (Int × Addr)}, k ∈ l.map (·.1) → ∃ b, l.lookup k = some b
  | [], h => by simp at h
  | q :: qs, h => by
    rw [List.lookup_cons]
    by_cases e : k = q.1
    · rw [show (k == q.1) = true by simpa using e]; exact ⟨_, rfl⟩
    · rw [show (k == q.1) = false by simpa using e]
      rw [List.map_cons, List.mem_cons] at h
      exact lookup_of_mem (h.resolve_left e)
theorem nodup_push {l : List (Int × Addr)} {k : Int} {b : Addr} (h : (l.map (·.1)).Nodup) (hk : l.lookup k = none) : ((l ++ [(k, b)]).map (·.1)).Nodup := by
  rw [List.map_append, List.nodup_append]
  refine ⟨h, by simp, fun x hx y hy => ?_⟩
  simp at hy
  subst hy
  rintro rfl
  obtain ⟨c, hc⟩ := lookup_of_mem hx
  rw [hk] at hc; cases hc
/-- the entries of a defaultdict -/
def AObj.ents? : AObj → Option (List (Int × Addr))
  | .dd es | .rdd es => some es
  | _ => none
def AHeap.ents (H : AHeap) (a : Addr) : Option (List (Int × Addr)) := (H a).bind AObj.ents?
section
variable {C : Cx} {A : Around} {env : Env} {ρ : Loc} {H : AHeap} {s : Shared}
theorem SRep.ddAt {a : Addr} {es : List (Int × Addr)} (R : SRep C env ρ H s) (e : H.ents a = some es) : DDRep s.heap a es := by
  unfold AHeap.ents at e
  cases q : H a with
  | none => rw [q] at e; cases e
  | some o =>
    rw [q] at e
    have y := R.hp a o q
    cases o with
    | dd _ => cases e; exact y.1
    | rdd _ => cases e; exact y.1
    | _ => cases e
theorem dd_find {d : Addr} {es : Array DictEntry} {ep : Nat} {l : List (Int × Addr)} {k : Int} {t : Tok} {Q : Option Nat → Shared → Prop} {E : Value → Shared → Prop} (g : s.heap.get? d = some (ddObj es ep)) (r : DDEnts es.toList l)
    (h : Q (es.toList.findIdx? fun e => (intKind C.prog C.w).is k e.key) s) : wpAny (model C.prog C.w) A (dictFind d (.int k t) (hashInt k)) Q E s := by
  refine wpAny_dictFind_of (knd := intKind C.prog C.w) (intKind_is _ _ k t) g rfl (fun e he => r.keys e (by simpa using he)) ?_
  have e1 : es.findIdx? (fun e => (intKind C.prog C.w).is k e.key) = es.toList.findIdx? (fun e => (intKind C.prog C.w).is k e.key) := by cases es; simp
  rw [e1]; exact h
theorem dd_get {d : Addr} {es : Array DictEntry} {ep : Nat} {l : List (Int × Addr)} {k : Int} {t : Tok} {Q : Option Value → Shared → Prop} {E : Value → Shared → Prop} (g : s.heap.get? d = some (ddObj es ep)) (r : DDEnts es.toList l)
    (h : Q ((l.lookup k).map Value.ref) { s with toks := s.toks + 1 }) : wpAny (model C.prog C.w) A (dictGet d (.int k t)) Q E s := by
  unfold dictGet
  try with_reducible refine wpAny_holding ?_
  refine wpAny_bind ((intKind C.prog C.w).pyHash (intKind_is C.prog C.w k t) (wpAny_bind (dd_find (s := { s with toks := s.toks + 1 }) g r ?_)))
  have hf := r.find (prog := C.prog) (w := C.w) k
  cases hi : es.toList.findIdx? (fun e => (intKind C.prog C.w).is k e.key) with
  | none => rw [hi] at hf; rw [hf] at h; exact wpAny_pure h
  | some i =>
    rw [hi] at hf
    obtain ⟨b, h1, h2⟩ := hf
    rw [h1] at h
    refine wpAny_bind (wpAny_dictEntries (s := { s with toks := s.toks + 1 }) g rfl (wpAny_pure ?_))
    rw [Array.getElem?_toList] at h2
    rw [h2]; exact h
theorem T2_ddget {a b : Addr} {k : Int} {es : List (Int × Addr)} {Q : AV → AHeap → Prop} (e : H.ents a = some es) (hk : es.lookup k = some b) (h : Q (.ref b) H) : T2 C getItem (.ref a) (.int k) H Q := fun A env ρ s va vb ok R h1 h2 => by
  obtain rfl := h1
  obtain ⟨t, rfl⟩ := h2
  obtain ⟨ar, ep, g, r, hn, _⟩ := R.ddAt e
  have hT : s.TypeIs (.ref a) "collections.defaultdict" := ⟨_, g, rfl⟩
  unfold getItem
  try with_reducible refine wpAny_holding ?_
  refine wpAny_bind (wpAny_sequenceKey hT (by decide) ?_)
  refine wpAny_bind (wpAny_callSpecial?_slot (name := Str.ofString "__getitem__") hT slot_dd_getitem
    (wpAny_call_entry slot_dd_getitem hT entry_dict_getitem' ?_ (args_dict_getitem' _ _)))
  show wpAny _ _ (dictGet a (.int k t) >>= _) _ _ s
  refine wpAny_bind (dd_get (C := C) g r ?_)
  rw [hk]
  exact wpAny_pure ⟨.ref b, rfl, wpAny_pure ⟨TExt.refl _, .ref b, H, rfl, R.tok, h⟩⟩

theorem call_slot {T : String} {name : Str} {id : String} {B : Builtin} {self : Value} {rest : List Value} {Q : Value → Shared → Prop} {E : Value → Shared → Prop} (slot : Slot T name id) (hT : s.TypeIs self T)
    (entry : entryFor table id = some B) (args : argsOk id ⟨self :: rest, []⟩)
    (h : wpAny (model C.prog C.w) A.in1 (B ⟨self :: rest, []⟩) (fun fin s' => match fin with | .done f => wants Q E (.ok f) s' | .again c' => c'.quiet = true ∧ codeAny (model C.prog C.w) A c' (wants Q E) s') (fun e s' => wants Q E (.error e) s') s) :
    wpAny (model C.prog C.w) A (call (.builtin id) (self :: rest)) Q E s :=
  wpAny_call (codeAny_call_builtin slot.plain entry (slot.check _ _ _ _ _ _ _ _ hT args h))

theorem wp_borrowed {f : Value} {Q : Value → Shared → Prop} {E : Value → Shared → Prop} (hc : codeAny (model C.prog C.w) A (.call f ⟨[], []⟩) (fun r s' => match r with | .ok (.ret v) => Q v s' | .ok _ => False | .error e => E e s') s) :
    wpAny (model C.prog C.w) A (callBorrowed f []) Q E s := fun Γ p hΓ => by
  have := wpAny_runValue (M := model C.prog C.w) (A := A) (E := E) hc Γ p hΓ
  rw [Sem.wp_runValue] at this
  unfold callBorrowed
  rw [Sem.wp_call]
  refine cast (congrArg (fun Z => wpCode _ _ Z p s) (funext fun r => funext fun s' => ?_)) this
  cases r with
  | error e => rfl
  | ok f => cases f <;> rfl
theorem missing_dd {a : Addr} {k : Int} {t : Tok} {es : List (Int × Addr)} {Q : Value → Shared → Prop} (R : SRep C env ρ H s) (e : H a = some (.dd es)) (hk : es.lookup k = none) (hsz : es.length < 1000)
    (h : ∀ r s', H r = none → TExt s.heap s'.heap → SRep C env ρ ((H.upd r (.iset [])).upd a (.dd (es ++ [(k, r)]))) s' → Q (.ref r) s') : W C A (call (.builtin "collections.defaultdict.__missing__") [.ref a, .int k t]) Q s := by
  obtain ⟨⟨ar, ep, g, rr, hnd, hlow⟩, hn⟩ := R.hp a _ e
  have hT : s.TypeIs (.ref a) "collections.defaultdict" := ⟨_, g, rfl⟩
  refine call_slot slot_dd_missing hT entry_dd_missing (args_dd_missing _ _) ?_
  unfold Builtin.«collections.defaultdict.__missing__» selfAndOne noKeywords
  simp only [List.isEmpty_nil]
  refine wpAny_bind (wpAny_bind (wpAny_pure (wpAny_pure ?_)))
  dsimp only
  unfold Builtin.Collections_defaultdict.factory? slotAt
  refine wpAny_bind (wpAny_bind (wpAny_bind (wpAny_loadPart g (wpAny_pure (wpAny_pure ?_)))))
  have hf : ((ddObj ar ep).slots[0]?).join.filter (fun x => x != Value.none) = some (.type "set") := by
    show (Option.some (Value.type "set")).filter _ = _
    rfl
  rw [hf]
  dsimp only
  unfold callOutOfASlot borrowsExactly
  refine wpAny_bind (wpAny_bind (wpAny_pure ?_))
  simp only [if_true]
  refine wp_borrowed (code_set_zero (C := C) ?_)
  have hne : a ≠ s.heap.objs.size := Nat.ne_of_lt (Heap.lt_size g)
  have R₁ := set_made setKI R
  have g₁ : (s.heap.push (setObj #[] 0 (.fresh 0 0 (!byText C.w)))).get? a = some (ddObj ar ep) := Heap.get?_push_of_some _ g
  refine wpAny_pure ⟨plainId_quiet plain_setdefault _, codeAny_builtin entry_dict_setdefault ?_⟩
  rw [Around.under_plainId plain_setdefault _]
  unfold Builtin.«dict.setdefault» Builtin.Dict.keyAndDefault Builtin.Dict.notOrdered Builtin.Dict.nameIsSure selfAndSome noKeywords
  have hT₁ : Shared.TypeIs { s with heap := s.heap.push (setObj #[] 0 (.fresh 0 0 (!byText C.w))) } (.ref a) "collections.defaultdict" := ⟨_, g₁, rfl⟩
  have hc1 : ["clear", "keys", "values", "items", "popitem", "__reversed__", "__iter__", "__repr__", "pop", "setdefault", "update", "__init__", "__setitem__", "__delitem__", "__ior__"].contains "setdefault" = true := by decide +kernel
  have hc2 : (Value.type "collections.defaultdict" != Value.type "dict") = true := by decide
  simp only [hc1, if_true, List.headD_cons, List.isEmpty_nil, Bool.not_true, Bool.false_eq_true, if_false]
  refine wpAny_bind (wpAny_bind (wpAny_bind (wpAny_typeOf hT₁ ?_)))
  simp only [hc2, if_true]
  refine wpAny_bind (wpAny_isInstance hT₁ sub_dd_od ?_)
  simp only [Bool.false_eq_true, if_false]
  refine wpAny_pure ?_
  refine wpAny_bind (wpAny_pure ?_)
  refine wpAny_bind (wpAny_bind (wpAny_pure (wpAny_bind (m := checkCount "setdefault" 1 2 _) (wpAny_pure (wpAny_pure ?_)))))
  dsimp only
  unfold Builtin.Dict.addrOf
  refine wpAny_bind (wpAny_pure (wpAny_pure ?_))
  have hsys : (a == sysModules) = false := by
    have : sysModules = 1 := rfl
    rw [this]; exact beq_eq_false_iff_ne.mpr (Nat.ne_of_gt hlow)
  simp only [hsys, Bool.false_eq_true, if_false]
  refine wpAny_bind ?_
  unfold dictSetDefault
  refine wpAny_holding ?_
  refine wpAny_bind ((intKind C.prog C.w).pyHash (intKind_is C.prog C.w k t) ?_)
  refine wpAny_bind (dd_find (C := C) (s := { s with heap := s.heap.push (setObj #[] 0 (.fresh 0 0 (!byText C.w))), toks := s.toks + 1 }) g₁ rr ?_)
  have hff := rr.find (prog := C.prog) (w := C.w) k
  cases hi : ar.toList.findIdx? (fun e => (intKind C.prog C.w).is k e.key) with
  | some i => rw [hi] at hff; obtain ⟨b, h1, _⟩ := hff; rw [hk] at h1; cases h1
  | none =>
    dsimp only
    have hlen : ar.size = es.length := by simpa using rr.length
    have hz1 : ar.size ≤ sizeLine := by
      have hsl : sizeLine = 2 ^ 24 := rfl
      rw [hlen, hsl]
      exact Nat.le_trans (Nat.le_of_lt hsz) (by decide)
    refine wpAny_bind (wpAny_rule ?_)
    refine wpAny_bind (wpAny_updateDictKeys (s := { s with heap := s.heap.push (setObj #[] 0 (.fresh 0 0 (!byText C.w))), toks := s.toks + 1 }) g₁ rfl ?_ hz1 (by simp))
    refine wpAny_pure ?_
    have sb : Heap.SameBut a (s.heap.push (setObj #[] 0 (.fresh 0 0 (!byText C.w)))) ((s.heap.push (setObj #[] 0 (.fresh 0 0 (!byText C.w)))).update a (Obj.mapDictKeys fun es => es.push ⟨hashInt k, .int k t, .ref s.heap.objs.size⟩)) := Heap.SameBut.update ..
    have nt : ∀ (vs : Array Value) (n : Nat), ddObj ar ep ≠ tupObj vs n := fun vs n q => absurd (Value.type.inj (congrArg Obj.cls q)) (by decide)
    have g₂ : ((s.heap.push (setObj #[] 0 (.fresh 0 0 (!byText C.w)))).update a (Obj.mapDictKeys fun es => es.push ⟨hashInt k, .int k t, .ref s.heap.objs.size⟩)).get? a = some (ddObj (ar.push ⟨hashInt k, .int k t, .ref s.heap.objs.size⟩) (ep + 1)) :=
      Heap.get?_update_self _ g₁ rfl
    have hH : (H.upd s.heap.objs.size (.iset [])) a = some (.dd es) := by rw [AHeap.upd_ne _ _ hne]; exact e
    have R₂ := (R₁.tok (tk := s.toks + 1)).change (tk := s.toks + 1) (o' := .dd (es ++ [(k, s.heap.objs.size)])) hH g₁ hn nt (fun v q => nomatch q) sb.extBut fun t' => ⟨⟨_, _, g₂, by rw [Array.toList_push]; exact rr.push, nodup_push hnd hk, hlow⟩, hn⟩
    exact wpAny_pure (h s.heap.objs.size _ (R.unheld (Nat.le_refl _)) ((Ext.push _ _).t.trans (TExt.but sb g₁ nt)) R₂)
end
end Mine
end
section
open PySem PySem.W PyProof.Rows PySem.SeqAt
set_option maxRecDepth 10000
set_option autoImplicit false
set_option linter.unusedVariables false
namespace Mine
section
variable {C : Cx} {A : Around} {env : Env} {ρ : Loc} {H : AHeap} {s : Shared}
theorem T2_ddmiss {a : Addr} {k : Int} {es : List (Int × Addr)} {Q : AV → AHeap → Prop} (e : H a = some (.dd es)) (hk : es.lookup k = none) (hsz : es.length < 1000) (h : ∀ r, H r = none → Q (.ref r) ((H.upd r (.iset [])).upd a (.dd (es ++ [(k, r)])))) :
    T2 C getItem (.ref a) (.int k) H Q := fun A env ρ s va vb ok R h1 h2 => by
  obtain rfl := h1
  obtain ⟨t, rfl⟩ := h2
  obtain ⟨⟨ar, ep, g, r, hnd, hlow⟩, hn⟩ := R.hp a _ e
  have hT : s.TypeIs (.ref a) "collections.defaultdict" := ⟨_, g, rfl⟩
  unfold getItem
  try with_reducible refine wpAny_holding ?_
  refine wpAny_bind (wpAny_sequenceKey hT (by decide) ?_)
  refine wpAny_bind (wpAny_callSpecial?_slot (name := Str.ofString "__getitem__") hT slot_dd_getitem
    (wpAny_call_entry slot_dd_getitem hT entry_dict_getitem' ?_ (args_dict_getitem' _ _)))
  show wpAny _ _ (dictGet a (.int k t) >>= _) _ _ s
  refine wpAny_bind (dd_get (C := C) g r ?_)
  rw [hk]
  have hsys : (a == sysModules) = false := by
    have : sysModules = 1 := rfl
    rw [this]; exact beq_eq_false_iff_ne.mpr (Nat.ne_of_gt hlow)
  simp only [Option.map_none]
  unfold Builtin.Dict.missed
  simp only [hsys, Bool.false_eq_true, if_false]
  refine wpAny_bind (wpAny_pure ?_)
  dsimp only
  have hT₁ : Shared.TypeIs { s with toks := s.toks + 1 } (.ref a) "collections.defaultdict" := ⟨_, g, rfl⟩
  refine wpAny_bind (wpAny_typeOf hT₁ ?_)
  have hc2 : (Value.type "collections.defaultdict" != Value.type "dict") = true := by decide
  simp only [hc2, if_true]
  refine wpAny_bind (wpAny_callSpecial?_slot (name := Str.ofString "__missing__") hT₁ slot_dd_missing (missing_dd (C := C) (R.tok (tk := s.toks + 1)) e hk hsz fun rr s' hr t' R' => ?_))
  dsimp only
  refine wpAny_bind (wpAny_rule ?_)
  refine wpAny_pure ?_
  exact ⟨_, rfl, wpAny_pure ⟨t', .ref rr, _, rfl, R', h rr hr⟩⟩
/-- x[k] of a defaultdict -/
theorem TE_ddidx {value slice : Expr} {pos : Pos} {Q : AV → AHeap → Prop} (hs : ∀ o i, subscripted slice false o i = operate [o, i] (getItem o i))
    (h : TE C value ρ H fun v H₁ => TE C slice ρ H₁ fun w H₂ => ∃ a k, v = .ref a ∧ w = .int k ∧ (∃ es, H₂.ents a = some es) ∧ T2 C getItem (.ref a) (.int k) H₂ Q) : TE C (.Subscript value slice pos) ρ H Q := fun A env s ok R => by
  refine PyProof.Rows.Subscript_ ((h A env s ok R).mono fun v s₁ ⟨t₁, av, H₁, h1, R₁, h2⟩ => (h2 A env s₁ ok R₁).mono fun i s₂ ⟨t₂, aw, H₂, h3, R₂, a, k, e1, e2, ⟨es, he⟩, hq⟩ => ?_)
  subst e1; subst e2
  obtain ⟨ar, ep, g, _⟩ := R₂.ddAt he
  have hv : v = .ref a := h1
  have h1' : VRep s₂.heap (.ref a) v := h1
  subst hv
  exact tail_any ⟨_, g, rfl⟩ slot_dd_getitem.lookup ((hq A env ρ s₂ (.ref a) i ok R₂ rfl h3).mono fun r s₃ x => x.t (t₁.trans t₂)) (hs _ _)

/-! defaultdict(set) -/
theorem dict_new_meets : Meets (Builtin.«dict.__new__» ⟨[.type "collections.defaultdict", .type "set"], []⟩) (fun _ R s => R (.ok (.ret (.ref s.heap.objs.size))) { s with heap := s.heap.push { cls := .type "collections.defaultdict", data := .dict #[] 0 } }) :=
  .of_wp fun prog w A R s h => by
    unfold Builtin.«dict.__new__»
    have hsub := sub_dd_dict
    have hmro := mro_dd
    obtain ⟨hp, g, d, tk, os⟩ := s
    dsimp only
    wp_walk
    exact ⟨_, rfl, h⟩
theorem call_type_set : specialOf (.type "set") "__call__" = pure (some (.builtin "type.__call__")) := by
  show (do let t ← typeOf (.type "set"); typeLookup t "__call__") = _
  have h1 : typeOf (.type "set") = pure (.type "type") := by kernel_rfl
  rw [h1]
  show typeLookup (.type "type") "__call__" = _
  rw [typeLookup_type, builtinLookup_eq_fast]; kernel_rfl
theorem dd_init_meets (n : Addr) : Meets (Builtin.«collections.defaultdict.__init__» ⟨[.ref n, .type "set"], []⟩) (fun _ R s => s.heap.get? n = some { cls := .type "collections.defaultdict", data := .dict #[] 0 } ∧
    ∀ h', h'.get? n = some (ddObj #[] 0) → Heap.SameBut n s.heap h' → R (.ok (.ret .none)) { s with heap := h' }) :=
  .of_wp fun prog w A R s h => by
    obtain ⟨g, h⟩ := h
    unfold Builtin.«collections.defaultdict.__init__»
    dsimp only [List.head?_cons]
    have hne : (Value.type "set" != Value.none) = true := by decide
    simp only [hne, if_true]
    rw [call_type_set]
    refine wpAny_bind (wpAny_pure ?_)
    simp only [Option.isNone_some, Bool.false_eq_true, if_false]
    unfold slotAt Builtin.Collections_defaultdict.setFactory slotAt
    refine wpAny_bind (wpAny_bind (wpAny_loadPart g (wpAny_pure ?_)))
    refine wpAny_bind (wpAny_bind (wpAny_bind (wpAny_loadPart g (wpAny_pure ?_))))
    show wpAny _ _ (if (some Value.none != some (Value.type "set")) = true then (slotLetsGo _ Value.none _ >>= fun _ => setSlotAt n 0 (some (Value.type "set"))) else _) _ _ _
    have hne2 : (some Value.none != some (Value.type "set")) = true := by decide
    rw [if_pos hne2]
    unfold slotLetsGo
    refine wpAny_bind (wpAny_pure ?_)
    unfold setSlotAt
    rw [if_neg (by decide)]
    refine wpAny_bind (wpAny_pure (wpAny_updatePart g ?_))
    have g1 : (s.heap.update n fun o => { o with slots := (o.slots ++ Array.replicate (0 + 1 - o.slots.size) none).setIfInBounds 0 (some (Value.type "set")) }).get? n = some (ddObj #[] 0) := Heap.get?_update_self _ g rfl
    refine wpAny_bind (wpAny_holding (wpAny_runValue (codeAny_builtin entry_dict_init ?_)))
    rw [Around.under_plainId plain_dict_init _]
    unfold Builtin.«dict.__init__» Builtin.Dict.selfAndRest Builtin.Dict.notOrdered Builtin.Dict.addrOf Builtin.Dict.updateCommon Builtin.Dict.addKeywords
    have hc1 : ["clear", "keys", "values", "items", "popitem", "__reversed__", "__iter__", "__repr__", "pop", "setdefault", "update", "__init__", "__setitem__", "__delitem__", "__ior__"].contains "__init__" = true := by decide +kernel
    have hc2 : (Value.type "collections.defaultdict" != Value.type "dict") = true := by decide
    have hT₁ : Shared.TypeIs { s with heap := s.heap.update n fun o => { o with slots := (o.slots ++ Array.replicate (0 + 1 - o.slots.size) none).setIfInBounds 0 (some (Value.type "set")) } } (.ref n) "collections.defaultdict" := ⟨_, g1, rfl⟩
    simp only [hc1, if_true, List.headD_cons]
    refine wpAny_bind (wpAny_bind (wpAny_bind (wpAny_typeOf hT₁ ?_)))
    simp only [hc2, if_true]
    refine wpAny_bind (wpAny_isInstance hT₁ sub_dd_od ?_)
    simp only [Bool.false_eq_true, if_false]
    refine wpAny_pure ?_
    refine wpAny_bind (wpAny_pure (wpAny_pure ?_))
    have hd : List.drop 1 [Value.type "set"] = [] := rfl
    simp only [hd, List.forIn_nil]
    refine wpAny_bind (wpAny_bind (wpAny_pure (wpAny_pure ?_)))
    show wpAny _ _ (ret Value.none) _ _ _
    refine wpAny_pure ?_
    dsimp only
    show wpAny _ _ (ret Value.none) _ _ _
    exact wpAny_pure ⟨_, rfl, h _ g1 (Heap.SameBut.update ..)⟩
/-- defaultdict(set) -/
theorem TC_ddnew {Q : AV → AHeap → Prop} (h : ∀ a, H a = none → Q (.ref a) (H.upd a (.dd []))) : TC C (.type "collections.defaultdict") [.val (.type "set")] H Q := fun A env ρ s vs ok R hv => by
  match vs, hv with
  | [va], ⟨h1, _⟩ =>
    obtain rfl := h1
    have hlow : 1 < s.heap.objs.size := Nat.lt_of_le_of_lt (by decide : 1 ≤ 126) (Nat.lt_trans R.fr.low R.ltL)
    refine callType_meets called_dd (typeCall_dd _) (newCall_dd _) entry_dict_new entry_dd_init dict_new_meets
      (Q₁ := fun obj s₁ => obj = .ref s.heap.objs.size ∧ s₁ = { s with heap := s.heap.push { cls := .type "collections.defaultdict", data := .dict #[] 0 } }) ⟨rfl, rfl⟩ ?_
    rintro obj s₁ ⟨rfl, rfl⟩
    have g : (s.heap.push { cls := .type "collections.defaultdict", data := .dict #[] 0 }).get? s.heap.objs.size = some { cls := .type "collections.defaultdict", data := .dict #[] 0 } := Heap.get?_push_size _ rfl
    refine ⟨⟨_, g, rfl⟩, args_dd_init _ _, _, dd_init_meets _, g, fun h' g' sb => ⟨rfl, ?_⟩⟩
    have x : Ext s.heap h' := fun b o e => (sb.2 b (Nat.ne_of_lt (Heap.lt_size e))).trans (Heap.get?_push_of_some _ e)
    exact ⟨x.t, .ref _, _, rfl, (R.to (tk := s.toks) x).add (o := .dd []) ⟨⟨#[], 0, g', trivial, .nil, hlow⟩, R.fresh (Nat.le_refl _)⟩ (Nat.ne_of_gt R.ltL), h _ (R.unheld (Nat.le_refl _))⟩
end
end Mine
end
section
open PySem PySem.W PyProof.Rows PySem.SeqAt
set_option maxRecDepth 10000
set_option autoImplicit false
set_option linter.unusedVariables false
namespace Mine
theorem DDEnts.get : ∀ {es : List DictEntry} {l : List (Int × Addr)}, DDEnts es l → ∀ {i : Nat} {p : Int × Addr}, l[i]? = some p → ∃ e t, es[i]? = some e ∧ e.key = .int p.1 t
  | [], [], _, i, p, h => by simp at h
  | e :: es, q :: l, ⟨⟨t, he⟩, r⟩, 0, p, h => by simp at h; subst h; exact ⟨e, t, rfl, by rw [he]⟩
  | e :: es, q :: l, ⟨_, r⟩, i + 1, p, h => by
    simp at h
    obtain ⟨e', t', h1, h2⟩ := r.get h
    exact ⟨e', t', by simpa using h1, h2⟩
  | [], _ :: _, x, _, _, _ => x.elim
  | _ :: _, [], x, _, _, _ => x.elim
abbrev keyIt (d : Addr) (n ep i : Nat) : Obj := { cls := .type "dict_keyiterator", data := .fields #[.ref d, rawInt i, rawInt n, rawInt ep] }
theorem next_dd {P : Program} {w : World} {I d : Addr} {es : Array DictEntry} {ep : Nat} {l : List (Int × Addr)} (r : DDEnts es.toList l) :
    NextR P w I ((l.map (·.1)).map .int) (fun i ob => ob = keyIt d es.size ep i) (fun h => h.get? d = some (ddObj es ep)) where
  odd := fun i ob e => .of (T := "dict_keyiterator") (vs := #[.ref d, rawInt i, rawInt es.size, rawInt ep]) (by rw [e]) (by rw [e])
  ty := fun i ob e => ⟨"dict_keyiterator", by rw [e], by decide⟩
  self := fun A s i ob Q g e h => by
    subst e
    refine wpAny_pyIter_slot ⟨_, g, rfl⟩ PySem.F.slot_dict_keyiterator_iter (wpAny_call_entry PySem.F.slot_dict_keyiterator_iter ⟨_, g, rfl⟩ PySem.F.entry_dict_keyiterator_iter ?_ (PySem.F.args_dict_keyiterator_iter_1 _))
    show wpAny _ _ (ret (.ref I)) _ _ s
    exact wpAny_pure ⟨_, rfl, "dict_keyiterator", _, ⟨_, g, rfl⟩, PySem.F.slot_dict_keyiterator_next.lookup, h⟩
  next := fun A s i ob ok hod ho hob hi => by
    subst hob
    have hlen : es.size = l.length := by simpa using r.length
    have hT : s.TypeIs (.ref I) "dict_keyiterator" := ⟨_, ho, rfl⟩
    simp only [List.length_map] at hi
    unfold pyNext
    refine wpAny_bind (wpAny_attempt (wpAny_callSpecial?_slot (name := Str.ofString "__next__") hT PySem.F.slot_dict_keyiterator_next
      (wpAny_call_entry PySem.F.slot_dict_keyiterator_next hT PySem.F.entry_dict_keyiterator_next ?_ (PySem.F.args_dict_keyiterator_next_1 _))))
    refine wpAny_bind (wpAny_pure ?_)
    refine wpAny_bind ?_
    refine wpAny_bind ?_
    first | refine wpAny_bind (wpAny_typeNameOfWhole_keyiter hT (wpAny_pure ?_)) | refine wpAny_bind (wpAny_typeNameOf_keyiter hT (wpAny_pure ?_))
    refine wpAny_bind (wpAny_fieldsOf ho rfl ?_)
    have hown : Builtin.Dict_items.ownsTuple "dict_keyiterator" = false := by decide
    simp only [hown, Bool.false_eq_true, if_false]
    show wpAny _ _ (if (Value.ref d == Value.none) = true then _ else _) _ _ s
    rw [if_neg (show ¬ ((Value.ref d == Value.none) = true) from Bool.false_ne_true)]
    refine wpAny_bind (wpAny_pure ?_)
    refine wpAny_bind (wpAny_dictEntries hod rfl ?_)
    rw [if_neg (by simp)]
    refine wpAny_bind (wpAny_pure ?_)
    refine wpAny_bind (wpAny_dictEpoch hod rfl ?_)
    rw [if_neg (by simp)]
    refine wpAny_pure ?_
    by_cases hlt : i < l.length
    · obtain ⟨p, hp⟩ : ∃ p, l[i]? = some p := ⟨_, List.getElem?_eq_getElem hlt⟩
      obtain ⟨e, t, he, hk⟩ := r.get hp
      have he' : es[i]? = some e := by simpa using he
      simp only [show ¬ ((i : Int) < 0) from by omega, if_false, Int.toNat_natCast, he']
      refine wpAny_bind ?_
      first | refine wpAny_bind (wpAny_typeNameOfWhole_keyiter hT (wpAny_pure ?_)) | refine wpAny_bind (wpAny_typeNameOf_keyiter hT (wpAny_pure ?_))
      refine wpAny_bind (wpAny_isOneOf_keyiter hT ?_)
      show wpAny _ _ (setField (.ref I) 1 (rawInt ((i : Int) + 1)) >>= _) _ _ s
      refine wpAny_bind (wpAny_setField_rec ho (by simp) fun h1 g1 sb1 => ?_)
      refine wpAny_bind (wpAny_holding ?_)
      refine wpAny_bind (wpAny_isOneOf_keyiter (s := { s with heap := h1 }) ⟨_, g1, rfl⟩ ?_)
      show wpAny _ _ (pure e.key) _ _ _
      refine wpAny_pure (wpAny_pure ⟨_, rfl, wpAny_pure ⟨⟨h1, s.toks, rfl, sb1.extBut⟩, .int p.1, _, by simp [hp], ⟨t, hk⟩, g1, ?_⟩⟩)
      simp [keyIt, rawInt]
    · have he' : es[i]? = none := Array.getElem?_eq_none (by omega)
      simp only [show ¬ ((i : Int) < 0) from by omega, if_false, Int.toNat_natCast, he']
      refine wpAny_bind ?_
      first | refine wpAny_bind (wpAny_typeNameOfWhole_keyiter hT (wpAny_pure ?_)) | refine wpAny_bind (wpAny_typeNameOf_keyiter hT (wpAny_pure ?_))
      show wpAny _ _ (setField (.ref I) 0 .none >>= _) _ _ s
      refine wpAny_bind (wpAny_setField_rec ho (by simp) fun h1 g1 sb1 => ?_)
      show wpAny _ _ (newExc (.type "StopIteration") [] >>= _) _ _ _
      refine wpAny_bind ?_
      simp only [newExc, newTuple]
      refine wpAny_bind (wpAny_newObj_type ?_ (by size_fits))
      refine wpAny_bind (m := firstArgMember _ _) (wpAny_of_eq (a := Value.none) (by first | rfl | (simp only [firstArgMember]; rfl)) ?_)
      refine wpAny_newObj_type ?_ (by size_fits)
      simp only [raiseNew]
      refine wpAny_bind (wpAny_handled ?_)
      rw [show A.in1.handled = none from ok.handled]
      refine wpAny_bind (wpAny_pure (wpAny_throw ?_))
      refine wpAny_bind (wpAny_isInstance (T := "StopIteration") (b := true) ⟨_, Heap.get?_push_size _ rfl, rfl⟩ isSubtype_stop ?_)
      exact wpAny_pure ⟨⟨_, s.toks, rfl, (sb1.extBut.push _).push _⟩, by simp; omega⟩
section
variable {C : Cx} {A : Around} {env : Env} {ρ : Loc} {H : AHeap} {s : Shared}
theorem SRep.rddAt {a : Addr} {l : List (Int × Addr)} (R : SRep C env ρ H s) (e : H a = some (.rdd l)) : ∃ es ep, C.hB a = some (ddObj es ep) ∧ s.heap.get? a = some (ddObj es ep) ∧ DDEnts es.toList l ∧ 1 < a := by
  obtain ⟨⟨es, ep, g, r, hp, hm⟩, ob, hB, hM⟩ := R.hp a _ e
  have := (R.keep _ _ hB).exact hM.nf
  rw [g] at this
  cases this
  exact ⟨es, ep, hB, g, r, hm⟩
theorem iter_rdd {a : Addr} {l : List (Int × Addr)} (e : H a = some (.rdd l)) : IterOf C (.ref a) H ((l.map (·.1)).map .int) (fun H' => H' a = some (.rdd l)) := fun A env ρ s c ok R hv => by
  obtain rfl := hv
  obtain ⟨es, ep, hB, g, r, hlow⟩ := R.rddAt e
  have hT : s.TypeIs (.ref a) "collections.defaultdict" := ⟨_, g, rfl⟩
  refine wpAny_pyIter_slot hT slot_dd_iter (wpAny_call_entry slot_dd_iter hT entry_dict_iter' ?_ (args_dict_iter' _))
  unfold Builtin.«dict.__iter__» Builtin.Dict.dictSlotNone Builtin.Dict.notOrdered slotArgs Builtin.Dict.addrOf Builtin.Dict.showsAll
  have hc1 : ["clear", "keys", "values", "items", "popitem", "__reversed__", "__iter__", "__repr__", "pop", "setdefault", "update", "__init__", "__setitem__", "__delitem__", "__ior__"].contains "__iter__" = true := by decide +kernel
  have hc2 : (Value.type "collections.defaultdict" != Value.type "dict") = true := by decide
  have hsys : (a == sysModules) = false := by
    have : sysModules = 1 := rfl
    rw [this]; exact beq_eq_false_iff_ne.mpr (Nat.ne_of_gt hlow)
  simp only [hc1, if_true, List.headD_cons, List.isEmpty_nil, Bool.not_true, Bool.false_eq_true, if_false, List.length_nil, bne_self_eq_false]
  refine wpAny_bind (wpAny_bind (wpAny_bind (wpAny_typeOf hT ?_)))
  simp only [hc2, if_true]
  refine wpAny_bind (wpAny_isInstance hT sub_dd_od ?_)
  simp only [Bool.false_eq_true, if_false]
  refine wpAny_pure ?_
  refine wpAny_bind (wpAny_pure (wpAny_pure ?_))
  refine wpAny_bind (wpAny_pure ?_)
  simp only [hsys, Bool.false_eq_true, if_false]
  refine wpAny_bind (wpAny_pure ?_)
  refine wpAny_bind (wpAny_dictEntries g rfl ?_)
  refine wpAny_bind (wpAny_dictEpoch g rfl ?_)
  unfold newFields
  refine wpAny_bind (wpAny_newObj_type (wpAny_pure ?_))
  have hnx : NextR C.prog C.w s.heap.objs.size ((l.map (·.1)).map .int) (fun i ob => ob = keyIt a es.size ep i) (fun h => h.get? a = some (ddObj es ep)) := next_dd r
  exact ⟨_, rfl, "dict_keyiterator", _, ⟨_, Heap.get?_push_size _ rfl, rfl⟩, PySem.F.slot_dict_keyiterator_next.lookup, (Ext.push _ _).t, R.to (tk := s.toks) (Ext.push _ _), s.heap.objs.size, keyIt a es.size ep 0, fun i ob => ob = keyIt a es.size ep i, rfl, R.freshAt (Nat.le_refl _),
    Heap.get?_push_size _ rfl, rfl, hnx.of fun env ρ H s R _ => (R.keep _ _ hB).exact (Main.nf (.inr (.inr rfl))), ⟨_, s.toks, rfl, Ext.push _ _⟩, Nat.le_refl _, _, hnx, fun h' hx => (hx a _ (Nat.ne_of_lt (Heap.lt_size g)) (Heap.get?_push_of_some _ g)).exact (Main.nf (.inr (.inr rfl)))⟩
end
end Mine
end
section
open PySem PySem.W PyProof.Rows PySem.SeqAt
set_option maxRecDepth 10000
set_option autoImplicit false
set_option linter.unusedVariables false
namespace Mine
/-! what is held still -/
def AObj.freeze : AObj → Option AObj
  | .list xs | .ro xs => some (.ro xs)
  | .iset S | .rset S => some (.rset S)
  | .wset S | .fset S => some (.fset S)
  | .dd es | .rdd es => some (.rdd es)
  | _ => none
def AHeap.fz (H : AHeap) (L : List Addr) : AHeap := fun b => if b ∈ L then (H b).bind AObj.freeze else H b
def AHeap.without (H : AHeap) (L : List Addr) : AHeap := fun b => if b ∈ L then none else H b
theorem Shape.freeze {w : World} {h : Heap} {a : Addr} {o o' : AObj} (x : Shape w h a o) (e : o.freeze = some o') : Shape w h a o' ∧ o'.fz = true ∧ ∃ ob, h.get? a = some ob ∧ Main ob := by
  cases o with
  | list xs => cases e; obtain ⟨vs, n, g, r⟩ := x; exact ⟨⟨vs, n, g, r⟩, rfl, _, g, .inl rfl⟩
  | ro xs => cases e; obtain ⟨vs, n, g, r⟩ := x; exact ⟨⟨vs, n, g, r⟩, rfl, _, g, .inl rfl⟩
  | iset S => cases e; obtain ⟨l, ⟨es, ep, g, r⟩, hp⟩ := x; exact ⟨⟨l, ⟨es, ep, g, r⟩, hp⟩, rfl, _, g, .inr (.inl rfl)⟩
  | rset S => cases e; obtain ⟨l, ⟨es, ep, g, r⟩, hp⟩ := x; exact ⟨⟨l, ⟨es, ep, g, r⟩, hp⟩, rfl, _, g, .inr (.inl rfl)⟩
  | wset S => cases e; obtain ⟨l, ⟨es, ep, t, g, r⟩, hp⟩ := x; exact ⟨⟨l, ⟨es, ep, t, g, r⟩, hp⟩, rfl, _, g, .inr (.inl rfl)⟩
  | fset S => cases e; obtain ⟨l, ⟨es, ep, t, g, r⟩, hp⟩ := x; exact ⟨⟨l, ⟨es, ep, t, g, r⟩, hp⟩, rfl, _, g, .inr (.inl rfl)⟩
  | dd es => cases e; obtain ⟨ar, ep, g, r⟩ := x; exact ⟨⟨ar, ep, g, r⟩, rfl, _, g, .inr (.inr rfl)⟩
  | rdd es => cases e; obtain ⟨ar, ep, g, r⟩ := x; exact ⟨⟨ar, ep, g, r⟩, rfl, _, g, .inr (.inr rfl)⟩
  | _ => cases e
def Cx.holds (C : Cx) (F : Addr → Option Obj) : Cx := { C with hB := fun b => match C.hB b with | some x => some x | none => F b }
theorem Cx.Ok.holds {C : Cx} (k : C.Ok) (F : Addr → Option Obj) : (C.holds F).Ok := ⟨fun b o' e => let ⟨o2, h, l⟩ := k.base b o' e; ⟨o2, by show (match C.hB b with | some x => some x | none => _) = _; rw [h], l⟩, k.glob, k.nolim⟩
theorem Cx.holds_old {C : Cx} {F : Addr → Option Obj} {b : Addr} {x : Obj} (h : C.hB b = some x) : (C.holds F).hB b = some x := by show (match C.hB b with | some x => some x | none => _) = _; rw [h]
theorem AOk.holds {C : Cx} {A : Around} {env : Env} (ok : AOk C A env) (F : Addr → Option Obj) : AOk (C.holds F) A env := ok.more rfl rfl fun _ _ => Cx.holds_old
theorem Cx.holds_none {C : Cx} {F : Addr → Option Obj} {b : Addr} (h : (C.holds F).hB b = none) : C.hB b = none := by
  cases e : C.hB b with
  | none => rfl
  | some x => rw [Cx.holds_old e] at h; cases h
theorem Cx.holds_new {C : Cx} {F : Addr → Option Obj} {b : Addr} (h : C.hB b = none) : (C.holds F).hB b = F b := by show (match C.hB b with | some x => some x | none => _) = _; rw [h]
section
variable {C : Cx} {A : Around} {env : Env} {ρ : Loc} {H : AHeap} {s : Shared}
theorem SRep.holds {L : List Addr} (R : SRep C env ρ H s) (hL : ∀ b ∈ L, ∃ o, H b = some o) : SRep (C.holds fun b => if b ∈ L then s.heap.get? b else none) env ρ (H.fz L) s where
  keep := fun b o e => by
    cases q : C.hB b with
    | some x => rw [Cx.holds_old q] at e; cases e; exact R.keep _ _ q
    | none =>
      rw [Cx.holds_new q] at e
      split at e
      · exact .of e
      · cases e
  fr := by
    have hl : env.locals ∉ L := fun q => by obtain ⟨o, ho⟩ := hL _ q; rw [R.sep] at ho; cases ho
    refine ⟨R.fr.sc, R.fr.kind, R.fr.gl, R.fr.bl, R.fr.low, R.fr.ns, R.fr.cells, R.fr.apart, ?_, fun hro p hp => ?_, R.fr.cin, R.fr.frm⟩
    · rw [Cx.holds_new R.fr.newL, if_neg hl]
    · rw [Cx.holds_new (R.fr.newC hro p hp), if_neg fun q => ?_]
      obtain ⟨o, ho⟩ := hL _ q
      obtain ⟨ob, g, hd, _⟩ := (R.hp _ _ ho).1.there
      obtain ⟨v, oc, g', hv⟩ := R.fr.cin p hp
      rw [g] at g'; cases g'
      exact hd _ hv
  sep := by
    unfold AHeap.fz
    rw [if_neg fun q => ?_]
    · exact R.sep
    · obtain ⟨o, ho⟩ := hL _ q; rw [R.sep] at ho; cases ho
  hp := fun b o e => by
    unfold AHeap.fz at e
    split at e
    · rename_i hb
      cases q : H b with
      | none => rw [q] at e; cases e
      | some o' =>
        rw [q] at e
        obtain ⟨h1, h2, ob, h3, h4⟩ := (R.hp b o' q).1.freeze e
        refine ⟨h1, ?_⟩
        unfold Place
        rw [h2]
        cases q' : C.hB b with
        | some x =>
          refine ⟨x, Cx.holds_old q', ?_⟩
          obtain ⟨o2, e2, r⟩ := R.keep _ _ q'
          rw [h3] at e2; cases e2
          rcases r with rfl | ⟨_, f1, f2, _⟩
          · exact h4
          · exact absurd (f2.trans f1) h4.nf
        | none => exact ⟨ob, by rw [Cx.holds_new q', if_pos hb]; exact h3, h4⟩
    · rename_i hb
      have y := R.hp b o e
      refine ⟨y.1, ?_⟩
      have p := y.2
      unfold Place at p ⊢
      cases hf : o.fz with
      | true => rw [hf] at p; obtain ⟨ob, h1, h2⟩ := p; exact ⟨ob, Cx.holds_old h1, h2⟩
      | false => rw [hf] at p; show (C.holds _).hB b = none; rw [Cx.holds_new p, if_neg hb]
  gens := R.gens
  os := R.os
theorem SRep.thaw {L : List Addr} {F : Addr → Option Obj} (R : SRep (C.holds F) env ρ H s) (hF : ∀ b, b ∉ L → F b = none) : SRep C env ρ (H.without L) s where
  keep := fun b o e => R.keep b o (Cx.holds_old e)
  fr := ⟨R.fr.sc, R.fr.kind, R.fr.gl, R.fr.bl, R.fr.low, R.fr.ns, R.fr.cells, R.fr.apart, Cx.holds_none R.fr.newL, fun hro p hp => Cx.holds_none (R.fr.newC hro p hp), R.fr.cin, R.fr.frm⟩
  sep := by unfold AHeap.without; split; rfl; exact R.sep
  hp := fun b o e => by
    unfold AHeap.without at e
    split at e
    · cases e
    · rename_i hb
      have y := R.hp b o e
      refine ⟨y.1, ?_⟩
      have p := y.2
      unfold Place at p ⊢
      cases hf : o.fz with
      | true =>
        rw [hf] at p
        obtain ⟨ob, h1, h2⟩ := p
        refine ⟨ob, ?_, h2⟩
        cases q : C.hB b with
        | some x => rw [Cx.holds_old q] at h1; exact h1
        | none => rw [Cx.holds_new q, hF b hb] at h1; cases h1
      | false => rw [hf] at p; exact Cx.holds_none p
  gens := R.gens
  os := R.os
/-- some of the call's own objects are held still from here on -/
theorem TSs_freeze {L : List Addr} {sts : List Stmt} {Q : AFlow → Loc → AHeap → Prop} (hL : ∀ b ∈ L, ∃ o, H b = some o) (h : ∀ F, TSs (C.holds F) sts ρ (H.fz L) fun f ρ' H' => Q f ρ' (H'.without L)) : TSs C sts ρ H Q := fun A env s ok R =>
  W.mono (h _ A env s (ok.holds _) (R.holds hL)) fun f s' ⟨af, ρ', H', h1, R', hq⟩ => ⟨af, ρ', _, h1, R'.thaw (L := L) fun b hb => if_neg hb, hq⟩
theorem TS_freeze {L : List Addr} {st : Stmt} {Q : AFlow → Loc → AHeap → Prop} (hL : ∀ b ∈ L, ∃ o, H b = some o) (h : ∀ F, TS (C.holds F) st ρ (H.fz L) fun f ρ' H' => Q f ρ' (H'.without L)) : TS C st ρ H Q := fun A env s ok R =>
  W.mono (h _ A env s (ok.holds _) (R.holds hL)) fun f s' ⟨af, ρ', H', h1, R', hq⟩ => ⟨af, ρ', _, h1, R'.thaw (L := L) fun b hb => if_neg hb, hq⟩
end
end Mine
end
section
open PySem PySem.W PyProof.Rows PySem.SeqAt
set_option maxRecDepth 10000
set_option autoImplicit false
set_option linter.unusedVariables false
namespace Mine
/-! names -/
def uniq : List Str → Bool
  | [] => true
  | x :: xs => !xs.contains x && uniq xs
theorem uniq_nodup : ∀ {l : List Str}, uniq l = true → l.Nodup
  | [], _ => .nil
  | x :: xs, h => by
    simp only [uniq, Bool.and_eq_true, Bool.not_eq_true'] at h
    exact List.nodup_cons.mpr ⟨fun q => by
      have h1 : ¬ x ∈ xs := by simpa using h.1
      exact h1 q, uniq_nodup h.2⟩
/-- a scope of parameters ps, no name of it from outside -/
def scGood (sc : Scope) (ps : List Str) : Bool :=
  uniq (sc.names.map (·.1)) && uniq ps && sc.names.all (fun p => !(p.2 == .free)) && ps.all fun x => match sc.names.lookup x with
    | some .local | some .cell => true
    | _ => false
theorem lookup_nodup {α : Type} {l : List (Str × α)} (h : (l.map (·.1)).Nodup) {p : Str × α} (hp : p ∈ l) : l.lookup p.1 = some p.2 := by
  induction l with
  | nil => cases hp
  | cons q qs ih =>
    rw [List.map_cons, List.nodup_cons] at h
    rw [List.lookup_cons]
    rcases List.mem_cons.mp hp with rfl | hp
    · rw [show (p.1 == p.1) = true by simp]
    · have : p.1 ≠ q.1 := fun e => h.1 (e ▸ List.mem_map_of_mem hp)
      rw [show (p.1 == q.1) = false by simpa using this]
      exact ih h.2 hp
theorem lookup_some_of_mem {α : Type} {l : List (Str × α)} {x : Str} (h : x ∈ l.map (·.1)) : (l.lookup x).isSome = true := by
  induction l with
  | nil => simp at h
  | cons q qs ih =>
    rw [List.lookup_cons]
    by_cases e : x = q.1
    · rw [show (x == q.1) = true by simpa using e]; rfl
    · rw [show (x == q.1) = false by simpa using e]
      rw [List.map_cons, List.mem_cons] at h
      exact ih (h.resolve_left e)
theorem cells_names : ∀ (names : List (Str × NameKind)) (n : Nat) (acc : List (Str × Addr)), (cellsFrom n names acc).map (·.1) = ((names.filter (·.2 == .cell)).map (·.1)).reverse ++ acc.map (·.1)
  | [], n, acc => by simp [cellsFrom]
  | (x, k) :: r, n, acc => by
    unfold cellsFrom
    cases hk : (k == NameKind.cell) with
    | true => simp [hk, cells_names r]
    | false => simp [hk, cells_names r]
theorem nodup_sub {l m : List Str} (h : m.Nodup) (s : l.Sublist m) : l.Nodup := h.sublist s
theorem mem_of_lookup' {α : Type} {l : List (Str × α)} {x : Str} {v : α} (h : l.lookup x = some v) : (x, v) ∈ l := mem_of_lookup h
structure ScGood (sc : Scope) (ps : List Str) : Prop where
  names : (sc.names.map (·.1)).Nodup
  pars : ps.Nodup
  nofree : ∀ p ∈ sc.names, p.2 ≠ .free
  kinds : ∀ x ∈ ps, sc.names.lookup x = some .local ∨ sc.names.lookup x = some .cell
theorem scGood_ok {sc : Scope} {ps : List Str} (h : scGood sc ps = true) : ScGood sc ps := by
  unfold scGood at h
  simp only [Bool.and_eq_true] at h
  obtain ⟨⟨⟨h1, h2⟩, h3⟩, h4⟩ := h
  refine ⟨uniq_nodup h1, uniq_nodup h2, fun p hp e => ?_, fun x hx => ?_⟩
  · have := List.all_eq_true.mp h3 p hp
    rw [e] at this; exact absurd this (by decide)
  · have := List.all_eq_true.mp h4 x hx
    revert this
    cases q : sc.names.lookup x with
    | none => intro h; cases h
    | some kd => cases kd <;> intro h <;> first | exact .inl rfl | exact .inr rfl | cases h
theorem cell_some {sc : Scope} {n : Nat} {x : Str} (h : sc.names.lookup x = some .cell) : ((cellsFrom n sc.names []).lookup x).isSome = true := by
  refine lookup_some_of_mem ?_
  rw [cells_names]
  simp only [List.map_nil, List.append_nil, List.mem_reverse, List.mem_map, List.mem_filter]
  exact ⟨(x, .cell), ⟨mem_of_lookup' h, rfl⟩, rfl⟩
theorem cell_own {sc : Scope} {n : Nat} (h : (sc.names.map (·.1)).Nodup) {p : Str × Addr} (hp : p ∈ cellsFrom n sc.names []) : (cellsFrom n sc.names []).lookup p.1 = some p.2 := by
  refine lookup_nodup ?_ hp
  rw [cells_names, List.map_nil, List.append_nil]
  have h1 : ((sc.names.filter (·.2 == .cell)).map (·.1)).Nodup := h.sublist (List.filter_sublist.map _)
  exact List.pairwise_reverse.mpr (h1.imp fun e => Ne.symm e)
theorem bindL_get (kd : Str → Option NameKind) : ∀ (binds : List (Str × Value)) (m : Str → Option Value) (x : Str), (binds.map (·.1)).Nodup → kd x = some .local → bindL kd binds m x = (binds.lookup x).or (m x)
  | [], m, x, _, _ => rfl
  | (n, v) :: r, m, x, hn, hk => by
    rw [List.map_cons, List.nodup_cons] at hn
    unfold bindL
    rw [bindL_get kd r _ x hn.2 hk, List.lookup_cons]
    by_cases e : x = n
    · subst e
      have : r.lookup x = none := by
        cases q : r.lookup x with
        | none => rfl
        | some y => exact absurd (List.mem_map_of_mem (f := (·.1)) (mem_of_lookup' q)) hn.1
      rw [this, if_pos hk]; simp
    · rw [show (x == n) = false by simpa using e]
      split <;> simp [e]
theorem bindC_get (kd : Str → Option NameKind) : ∀ (binds : List (Str × Value)) (m : Str → Option Value) (x : Str), (binds.map (·.1)).Nodup → kd x ≠ some .local → bindC kd binds m x = (binds.lookup x).or (m x)
  | [], m, x, _, _ => rfl
  | (n, v) :: r, m, x, hn, hk => by
    rw [List.map_cons, List.nodup_cons] at hn
    unfold bindC
    rw [bindC_get kd r _ x hn.2 hk, List.lookup_cons]
    by_cases e : x = n
    · subst e
      have : r.lookup x = none := by
        cases q : r.lookup x with
        | none => rfl
        | some y => exact absurd (List.mem_map_of_mem (f := (·.1)) (mem_of_lookup' q)) hn.1
      rw [this, if_neg hk]; simp
    · rw [show (x == n) = false by simpa using e]
      split <;> simp [e]
theorem zip_look {h : Heap} : ∀ {ps : List Str} {avs : List AV} {vs : List Value}, VReps h avs vs → ∀ {x : Str} {v : AV}, (ps.zip avs).lookup x = some v → ∃ c, (ps.zip vs).lookup x = some c ∧ VRep h v c
  | [], avs, vs, _, x, v, e => by simp at e
  | p :: ps, [], [], _, x, v, e => by simp at e
  | p :: ps, a :: avs, c :: vs, r, x, v, e => by
    rw [List.zip_cons_cons, List.lookup_cons] at e ⊢
    by_cases q : x = p
    · subst q
      rw [show (x == x) = true by simp] at e ⊢
      cases e; exact ⟨c, rfl, r.1⟩
    · rw [show (x == p) = false by simpa using q] at e ⊢
      exact zip_look r.2 e
  | _ :: _, [], _ :: _, r, _, _, _ => r.elim
  | _ :: _, _ :: _, [], r, _, _, _ => r.elim
theorem zip_names : ∀ {ps : List Str} {vs : List Value}, vs.length = ps.length → (ps.zip vs).map (·.1) = ps
  | [], [], _ => rfl
  | p :: ps, v :: vs, h => by simp [zip_names (show vs.length = ps.length by simpa using h)]
  | [], _ :: _, h => by simp at h
  | _ :: _, [], h => by simp at h

/-! a call -/
def AHeap.fzAll (H : AHeap) : AHeap := fun b => (H b).bind AObj.freeze
def AHeap.adopt (H H' : AHeap) (L : List Addr) : AHeap := fun b => if b ∈ L then H' b else H b
def Cx.callee (C : Cx) (sc : Scope) (hB : Addr → Option Obj) : Cx := { C with hB := hB, sc := sc, room := C.room - 1, ro := false }
theorem adopt_nil (H H' : AHeap) : H.adopt H' [] = H := by funext b; simp [AHeap.adopt]
theorem adopt_one {H H' : AHeap} {r : Addr} {o : AObj} (h : H' r = some o) : H.adopt H' [r] = H.upd r o := by
  funext b; unfold AHeap.adopt AHeap.upd
  by_cases q : b = r
  · subst q; simp [h]
  · simp [q]
section
variable {C : Cx} {A : Around} {env : Env} {ρ : Loc} {H : AHeap} {s : Shared}
theorem SRep.adopt {C' : Cx} {env' : Env} {ρ' : Loc} {H' : AHeap} {s' : Shared} {L : List Addr} (R : SRep C env ρ H s) (R' : SRep C' env' ρ' H' s') (hw : C'.w = C.w) (hB : ∀ b, C'.hB b = s.heap.get? b) (hgp : C'.gp = C.gp) (hos : C'.os = C.os)
    (hL : ∀ b ∈ L, ∃ o, H' b = some o ∧ o.fz = false) : (∀ b ∈ L, H b = none) ∧ SRep C env ρ (H.adopt H' L) s' := by
  have x : ExtK s.heap s'.heap := fun b o e => R'.keep b o ((hB b).trans e)
  have new : ∀ b ∈ L, s.heap.get? b = none := fun b hb => by
    obtain ⟨o, h1, h2⟩ := hL b hb
    have p := (R'.hp b o h1).2
    unfold Place at p
    rw [h2] at p
    rw [← hB b]; exact p
  have R₁ : SRep C env ρ H s' := R.extK x (hgp ▸ R'.gens) ((R'.os.trans hos).trans R.os.symm)
  refine ⟨fun b hb => ?_, R₁.keep, R₁.fr, ?_, fun b o e => ?_, R₁.gens, R₁.os⟩
  · cases q : H b with
    | none => rfl
    | some o => obtain ⟨ob, g, _⟩ := (R.hp b o q).1.there; rw [new b hb] at g; cases g
  · unfold AHeap.adopt
    rw [if_neg fun q => ?_]
    · exact R.sep
    · obtain ⟨_, hn, _⟩ := R.fr.ns
      obtain ⟨oL, _, _, hoL, _⟩ := hn
      rw [new _ q] at hoL; cases hoL
  · unfold AHeap.adopt at e
    split at e
    · rename_i hb
      obtain ⟨o', h1, h2⟩ := hL b hb
      rw [h1] at e; cases e
      have y := R'.hp b o h1
      refine ⟨hw ▸ y.1, ?_⟩
      unfold Place
      rw [h2]
      cases q : C.hB b with
      | none => rfl
      | some z => obtain ⟨_, g, _⟩ := R.keep _ _ q; rw [new b hb] at g; cases g
    · exact R₁.hp b o e
theorem TC_fun {fa : Addr} {o : Obj} {fd : FuncData} {body : List Stmt} {ps : List Str} {avs : List AV} {Q : AV → AHeap → Prop} (k : C.Ok) (hr : 0 < C.room) (ho : C.gb.get? fa = some o) (hd : o.data = .func fd) (hnf : o.cls ≠ .type "frame") (hcd : C.gb.CodeRec fd.code fd.qualname)
    (hbody : fd.body = .stmts body) (hclo : fd.closure = []) (hg : fd.globals = mainGlobals) (hb : fd.builtins = builtinsNs) (hk : fd.scope.kind = .function) (hco : fd.scope.isCoroutine = false) (hgen : fd.scope.isGenerator = false)
    (hps : avs.length = ps.length) (hbind : ∀ vals : List Value, vals.length = ps.length → bindArgs fd ⟨vals, []⟩ = pure (ps.zip vals)) (hsc : scGood fd.scope ps = true)
    (h : ∀ hB, (C.callee fd.scope hB).Ok → TSs (C.callee fd.scope hB) body (fun x => (ps.zip avs).lookup x) H.fzAll fun f ρ' H' => ∃ v L, (f = .ret v ∨ (f = .next ∧ v = .none)) ∧ (∀ b ∈ L, ∃ o, H' b = some o ∧ o.fz = false) ∧ ((∀ b ∈ L, H b = none) → Q v (H.adopt H' L))) :
    TC C (.ref fa) avs H Q := fun A env ρ s vs ok R hv => by
  have st : ExtK C.gb s.heap := R.st k
  have good := scGood_ok hsc
  have hvl : vs.length = ps.length := hv.length.symm.trans hps
  have hnd : ((ps.zip vs).map (·.1)).Nodup := by rw [zip_names hvl]; exact good.pars
  have hdep := ok.depth
  refine wpAny_call (call_cellsK (binds := ps.zip vs) (by omega) ((st _ _ ho).exact hnf) hd (R.nolim k) ?_ hbody (hbind vs hvl) hclo (fun x hx => ?_) (fun s₁ hs₁ hF₁ => ?_) hco hgen hk)
  · exact code_k hcd st
  · have hm : x.1 ∈ ps := by rw [← zip_names hvl]; exact List.mem_map_of_mem hx
    rcases good.kinds _ hm with e | e
    · exact .inl e
    · exact .inr ⟨e, cell_some e⟩
  · have hL : (callEnvC fd s.heap.objs.size fa).locals = s.heap.objs.size := rfl
    have hcl : (callEnvC fd s.heap.objs.size fa).cells = cellsFrom (s.heap.objs.size + 1) fd.scope.names [] := rfl
    have hkd : ∀ x, (callEnvC fd s.heap.objs.size fa).kindOf x = fd.scope.names.lookup x := fun x => rfl
    have hsame := hs₁.toInCall.same
    obtain ⟨h₁, tk₁, he₁⟩ := hsame
    have x₁ : Ext s.heap s₁.heap := hs₁.toInCall.keep
    have k' : (C.callee fd.scope fun b => s.heap.get? b).Ok := ⟨fun b o e => st b o e, k.glob, k.nolim⟩
    have R' : SRep (C.callee fd.scope fun b => s.heap.get? b) (callEnvC fd s.heap.objs.size fa) (fun x => (ps.zip avs).lookup x) H.fzAll s₁ := by
      refine ⟨fun b o e => .of (x₁ b o e), ⟨rfl, hk, hg, hb, Nat.lt_trans R.fr.low R.ltL, ⟨_, hs₁.toInCall.ns, fun x v h1 h2 => ?_⟩, fun x hx => ?_, hs₁.apart, ?_, fun _ p hp => ?_, fun p hp => ?_, fun _ => ⟨rfl, hF₁⟩⟩, ?_, fun b o e => ?_, ?_, ?_⟩
      · obtain ⟨c, h3, h4⟩ := zip_look hv h2
        refine ⟨c, ?_, h4.t x₁.t⟩
        rw [bindL_get _ _ _ _ hnd ((hkd x).trans h1), h3]; rfl
      · have hc : fd.scope.names.lookup x = some .cell := by
          rcases hx with e | e
          · exact e
          · exact absurd rfl (good.nofree _ (mem_of_lookup' e))
        obtain ⟨ca, hca⟩ := Option.isSome_iff_exists.mp (cell_some (n := s.heap.objs.size + 1) hc)
        refine ⟨ca, _, hca, hs₁.cell _ _ hca, fun v hv' => ?_⟩
        obtain ⟨c, h3, h4⟩ := zip_look hv hv'
        refine ⟨c, ?_, h4.t x₁.t⟩
        rw [bindC_get _ _ _ _ hnd (by rw [hkd, hc]; decide), h3]; rfl
      · exact Heap.get?_none_of_le (Nat.le_refl _)
      · exact Heap.get?_none_of_le (Nat.le_of_lt (hs₁.above p.1 p.2 hp))
      · exact ⟨_, hs₁.cell _ _ (cell_own good.names hp)⟩
      · unfold AHeap.fzAll
        rw [hL, R.unheld (Nat.le_refl _)]; rfl
      · unfold AHeap.fzAll at e
        cases q : H b with
        | none => rw [q] at e; cases e
        | some o' =>
          rw [q] at e
          obtain ⟨h1, h2, ob, h3, h4⟩ := (R.hp b o' q).1.freeze e
          refine ⟨h1.t x₁.t fun ob => x₁ b ob, ?_⟩
          unfold Place
          rw [h2]
          exact ⟨ob, h3, h4⟩
      · have : s₁.gens = s.gens := by rw [he₁]
        rw [this]; exact R.gens
      · have : s₁.os = s.os := by rw [he₁]
        rw [this]; exact R.os
    have ok' : AOk (C.callee fd.scope fun b => s.heap.get? b) (A.deeper (callEnvC fd s.heap.objs.size fa)) (callEnvC fd s.heap.objs.size fa) := by
      refine ⟨ok.handled, ?_, ?_, fun hst => ?_⟩
      rotate_left 2
      · obtain ⟨outer, h1, h2⟩ := ok.frames hst
        obtain ⟨q1, o, q2, q3⟩ := R.fr.frm hst
        refine ⟨env :: outer, ?_, fun e he => ?_⟩
        · show pushEnvs [callEnvC fd s.heap.objs.size fa] A.frames = _
          rw [h1]; rfl
        · rcases List.mem_cons.mp he with rfl | he
          · exact ⟨⟨by rw [R.fr.sc, R.fr.kind]; decide, fun L hL => by rw [q1] at hL; cases hL; exact R.fr.low⟩, _, o, q1, q2, q3⟩
          · obtain ⟨h3, L, o', h4, h5, h6⟩ := h2 e he
            obtain ⟨o2, h7, h8, _⟩ := (R.keep _ _ h5).data
            exact ⟨h3, L, o2, h4, h7, h8.trans h6⟩
      · show A.depth + 1 + (C.room - 1) < recursionLimit; omega
      · have := ok.units; show A.units + 3 + 100 * (C.room - 1) + 50 < cLine; omega
    refine wpAny_mono (h (fun b => s.heap.get? b) k' (A.deeper (callEnvC fd s.heap.objs.size fa)) (callEnvC fd s.heap.objs.size fa) s₁ ok' R') (fun f s₂ ⟨af, ρ', H', hf, R₂, v, L, hfv, hLo, hq⟩ => ?_) fun _ _ x => x.elim
    obtain ⟨hnew, R₃⟩ := R.adopt R₂ rfl (fun b => rfl) rfl rfl hLo
    have t : TExt s.heap s₂.heap := ExtK.t fun b o e => R₂.keep b o e
    rcases hfv with rfl | ⟨rfl, rfl⟩
    · obtain ⟨c, rfl, hc⟩ := hf
      exact ⟨t, v, _, hc, R₃, hq hnew⟩
    · obtain rfl := hf
      exact ⟨t, .none, _, rfl, R₃, hq hnew⟩
end
end Mine
end
section
open PySem PySem.W PyProof.Rows PySem.SeqAt
set_option maxRecDepth 10000
set_option autoImplicit false
set_option linter.unusedVariables false
namespace Mine
def relab (scope sc : Scope) : Scope := { scope with names := scope.names.map fun (n, k) => if (k == .free && sc.kind == .function && sc.names.lookup n == some .cell) then (n, .cell) else (n, k) }
theorem relab_eq {scope sc : Scope} {env : Env} (h : env.scope = sc) : relabel scope env = relab scope sc := by
  unfold relabel relab Env.kindOf; rw [h]
/-- the cells that a comprehension takes along -/
def clFrom (cells : List (Str × Addr)) : List (Str × NameKind) → List (Str × Addr) → List (Str × Addr)
  | [], acc => acc
  | (n, k) :: r, acc => if k == .free then clFrom cells r ((n, (cells.lookup n).getD 0) :: acc) else clFrom cells r acc
theorem closure_ok {env : Env} {f : Str × NameKind → List (Str × Addr) → Sem (ForInStep (List (Str × Addr)))} (hf : ∀ n k acc, f (n, k) acc = if (k == NameKind.free) = true then (cellOf env n >>= fun a => pure (.yield ((n, a) :: acc))) else pure (.yield acc)) :
    ∀ (names : List (Str × NameKind)) (acc : List (Str × Addr)), (∀ p ∈ names, p.2 = .free → ∃ ca, env.cells.lookup p.1 = some ca) → forIn names acc f = pure (clFrom env.cells names acc)
  | [], acc, _ => by rw [List.forIn_nil]; rfl
  | (n, k) :: r, acc, h => by
    rw [List.forIn_cons, hf]
    unfold clFrom
    cases hk : (k == NameKind.free) with
    | true =>
      have hk' : k = .free := by simpa using hk
      obtain ⟨ca, hca⟩ := h (n, k) (by simp) hk'
      simp only [if_true]
      unfold cellOf
      rw [hca]
      show forIn r ((n, ca) :: acc) f = _
      rw [closure_ok hf r _ fun p hp => h p (by simp [hp])]; rfl
    | false =>
      simp only [Bool.false_eq_true, if_false]
      show forIn r acc f = _
      exact closure_ok hf r _ fun p hp => h p (by simp [hp])
theorem closureFor_ok {scope : Scope} {env : Env} (h : ∀ p ∈ scope.names, p.2 = .free → ∃ ca, env.cells.lookup p.1 = some ca) : closureFor scope env = pure (clFrom env.cells scope.names []) := by
  unfold closureFor
  have := closure_ok (env := env) (f := fun (x : Str × NameKind) (r : List (Str × Addr)) => match x with | (name, kind) => if (kind == NameKind.free) = true then (do let a ← cellOf env name; pure (.yield ((name, a) :: r))) else pure (.yield r)) (fun n k acc => rfl) scope.names [] h
  exact (congrArg (fun t : Sem (List (Str × Addr)) => t >>= fun s => pure s) this).trans rfl
theorem cl_names {cells : List (Str × Addr)} : ∀ (names : List (Str × NameKind)) (acc : List (Str × Addr)), (clFrom cells names acc).map (·.1) = ((names.filter (·.2 == .free)).map (·.1)).reverse ++ acc.map (·.1)
  | [], acc => by simp [clFrom]
  | (x, k) :: r, acc => by
    unfold clFrom
    cases hk : (k == NameKind.free) with
    | true => simp [hk, cl_names r]
    | false => simp [hk, cl_names r]
theorem cl_mem {cells : List (Str × Addr)} : ∀ (names : List (Str × NameKind)) (acc : List (Str × Addr)), (∀ p ∈ names, p.2 = .free → ∃ ca, cells.lookup p.1 = some ca) → (∀ p ∈ acc, cells.lookup p.1 = some p.2) → ∀ p ∈ clFrom cells names acc, cells.lookup p.1 = some p.2
  | [], acc, _, h, p, hp => h p hp
  | (x, k) :: r, acc, hn, h, p, hp => by
    unfold clFrom at hp
    cases hk : (k == NameKind.free) with
    | true =>
      rw [hk] at hp
      simp only [if_true] at hp
      refine cl_mem r _ (fun q hq => hn q (by simp [hq])) (fun q hq => ?_) p hp
      rcases List.mem_cons.mp hq with rfl | hq
      · obtain ⟨ca, hca⟩ := hn (x, k) (by simp) (by simpa using hk)
        rw [hca]; rfl
      · exact h q hq
    | false =>
      rw [hk] at hp
      simp only [Bool.false_eq_true, if_false] at hp
      exact cl_mem r acc (fun q hq => hn q (by simp [hq])) h p hp
/-- a comprehension's own scope: locals and names from around it -/
def compGood (sc scope : Scope) : Bool := uniq (scope.names.map (·.1)) && scope.names.all fun p => p.2 == .local || (p.2 == .free && match sc.names.lookup p.1 with
  | some .cell | some .free => true
  | _ => false)
structure CompGood (sc scope : Scope) : Prop where
  names : (scope.names.map (·.1)).Nodup
  kinds : ∀ p ∈ scope.names, p.2 = .local ∨ (p.2 = .free ∧ (sc.names.lookup p.1 = some .cell ∨ sc.names.lookup p.1 = some .free))
theorem compGood_ok {sc scope : Scope} (h : compGood sc scope = true) : CompGood sc scope := by
  unfold compGood at h
  simp only [Bool.and_eq_true] at h
  refine ⟨uniq_nodup h.1, fun p hp => ?_⟩
  have := List.all_eq_true.mp h.2 p hp
  rw [Bool.or_eq_true] at this
  rcases this with e | e
  · exact .inl (by simpa using e)
  · rw [Bool.and_eq_true] at e
    refine .inr ⟨by simpa using e.1, ?_⟩
    have e2 := e.2
    revert e2
    cases q : sc.names.lookup p.1 with
    | none => intro h; cases h
    | some kd => cases kd <;> intro h <;> first | exact .inl rfl | exact .inr rfl | cases h
/-- what a comprehension sees of the names around it -/
def capt (scope : Scope) (ρ : Loc) : Loc := fun x => if scope.names.lookup x = some .free then ρ x else none
/-- the context of a comprehension's elements -/
structure Inner (C C' : Cx) (scope : Scope) : Prop where
  ok : C'.Ok
  sc : C'.sc = relab scope C.sc
  g : C'.G = C.G
  w : C'.w = C.w
  gb : C'.gb = C.gb
  room : C'.room = C.room
  ro : C'.ro = true
  stk : C'.stk = false
theorem Inner.hold {C C' : Cx} {scope : Scope} (x : Inner C C' scope) (a : Addr) (o : Obj) : Inner C (C'.hold a o) scope := ⟨x.ok.hold a o, x.sc, x.g, x.w, x.gb, x.room, x.ro, x.stk⟩
theorem relab_lookup {scope sc : Scope} {x : Str} {k : NameKind} (h : (relab scope sc).names.lookup x = some k) : ∃ k', scope.names.lookup x = some k' ∧ (k = k' ∨ (k = .cell ∧ k' = .free)) := by
  unfold relab at h
  dsimp only at h
  generalize scope.names = names at h
  induction names with
  | nil => cases h
  | cons p r ih =>
    obtain ⟨n, k0⟩ := p
    rw [List.map_cons] at h
    rw [List.lookup_cons]
    by_cases e : x = n
    · subst e
      rw [show (x == x) = true by simp]
      refine ⟨k0, rfl, ?_⟩
      by_cases hc : (k0 == NameKind.free && sc.kind == .function && sc.names.lookup x == some .cell) = true
      · rw [if_pos hc, List.lookup_cons, show (x == x) = true by simp] at h
        cases h
        simp only [Bool.and_eq_true] at hc
        exact .inr ⟨rfl, by simpa using hc.1.1⟩
      · rw [if_neg hc, List.lookup_cons, show (x == x) = true by simp] at h
        cases h; exact .inl rfl
    · rw [show (x == n) = false by simpa using e]
      have : ∀ q : Str × NameKind, q.1 = n → List.lookup x (q :: (r.map fun (n, k) => if (k == .free && sc.kind == .function && sc.names.lookup n == some .cell) then (n, .cell) else (n, k))) = List.lookup x (r.map fun (n, k) => if (k == .free && sc.kind == .function && sc.names.lookup n == some .cell) then (n, .cell) else (n, k)) := fun q hq => by
        rw [List.lookup_cons, hq, show (x == n) = false by simpa using e]
      split at h <;> rw [this _ rfl] at h <;> exact ih h
end Mine
end
section
open PySem PySem.W PyProof.Rows PySem.SeqAt
set_option maxRecDepth 10000
set_option autoImplicit false
set_option linter.unusedVariables false
namespace Mine
section
variable {C : Cx} {A : Around} {env : Env} {ρ : Loc} {H : AHeap} {s : Shared}
/-- an object that is no one's is changed, the state being another -/
theorem SRep.otherS {a : Addr} {ob : Obj} {s' : Shared} (R : SRep C env ρ H s) (g : s.heap.get? a = some ob) (F : Free C env H a) (ht : ∀ vs n, ob ≠ tupObj vs n) (hs : Heap.ExtBut a s.heap s'.heap) (hg : C.gp s'.gens) (ho : s'.os = s.os) : SRep C env ρ H s' := by
  have x := R.other (tk := s'.toks) g F.old F.un F.loc F.cell ht hs
  exact ⟨x.keep, x.fr, x.sep, x.hp, hg, ho.trans R.os⟩
theorem SRep.otherK {a : Addr} {ob : Obj} {s' : Shared} (R : SRep C env ρ H s) (g : s.heap.get? a = some ob) (F : Free C env H a) (ht : ∀ vs n, ob ≠ tupObj vs n) (hs : ExtBK a s.heap s'.heap) (hg : C.gp s'.gens) (ho : s'.os = s.os) : SRep C env ρ H s' :=
  R.moveK (TExt.otherK g ht hs) (fun b o hb e => hs b o (fun q => by
    rcases hb with h | ⟨p, hp, h⟩ | h | h
    · exact F.loc (q ▸ h)
    · exact F.cell p hp (h.trans q)
    · exact h (by rw [q]; exact F.un)
    · exact h (by rw [q]; exact F.old)) e) hg ho
/-- the context of a comprehension -/
def Cx.inner (C : Cx) (scope : Scope) (I : Addr) (h : Heap) : Cx := { C with hB := fun b => if b = I then none else h.get? b, sc := relab scope C.sc, ro := true, stk := false }
theorem codeAny_loopL {prog : Program} {w : World} {R : Result → Shared → Prop} {elt target iter : Expr} {ifs : List Expr} {scope : Scope} {pos : Pos} {it acc : Value} {env : Env} (I : Nat → Shared → Prop)
    (turn : ∀ n s, I n s → wpAny (model prog w) A (pyNext it) (fun r s₁ => match r with
      | none => R (.ok .next) s₁
      | some v => wpAny (model prog w) A (letOwnedTupleGo target it v) (fun _ s₁ => wpAny (model prog w) A (assign target env v) (fun _ s₂ =>
          wpAny (model prog w) A (forIn ifs true fun c r => if r = true then do let ok ← isTrue c env (eval c env); pure (ForInStep.yield ok) else pure (ForInStep.yield r)) (fun ok s₃ =>
            if ok = true then wpAny (model prog w) A (eval elt env) (fun x s₄ =>
              wpAny (model prog w) A (call (.builtin "list.append") [acc, x]) (fun _ s₅ => ∃ m, m < n ∧ I m s₅) (notedBy (model prog w) A env fun e s' => R (.error e) s') s₄) (notedBy (model prog w) A env fun e s' => R (.error e) s') s₃
            else ∃ m, m < n ∧ I m s₃) (notedBy (model prog w) A env fun e s' => R (.error e) s') s₂) (notedBy (model prog w) A env fun e s' => R (.error e) s') s₁) (notedBy (model prog w) A env fun e s' => R (.error e) s') s₁) (notedBy (model prog w) A env fun e s' => R (.error e) s') s)
    (n : Nat) (h : I n s) :
    codeAny (model prog w) A (.compLoop (.ListComp elt [⟨target, iter, ifs, 0⟩] scope pos) 0 it acc env) R s := by
  refine codeAny_loop rfl I (fun n s hI => ?_) n h
  show wpAny _ A ((compTurn (.ListComp elt [⟨target, iter, ifs, 0⟩] scope pos) 0 it acc env).onRaise (fun x => do noteFrame x env; theTreesLotGoes x)) _ _ s
  refine wpAny_noted ?_
  rw [compTurn_list]
  refine wpAny_bind (wpAny_standAt (wpAny_bind (wpAny_mono (turn n s hI) (fun r s₁ h₁ => ?_) fun _ _ h' => h')))
  cases r with
  | none => exact wpAny_pure h₁
  | some v =>
    refine wpAny_bind (wpAny_mono h₁ (fun _ s₁' h₁' => ?_) fun _ _ h' => h')
    refine wpAny_bind (wpAny_mono h₁' (fun _ s₂ h₂ => wpAny_bind (wpAny_mono h₂ (fun ok s₃ h₃ => ?_) fun _ _ h' => h')) fun _ _ h' => h')
    cases ok with
    | false => exact wpAny_pure ⟨rfl, h₃⟩
    | true =>
      exact wpAny_bind (wpAny_bind (wpAny_mono h₃ (fun x s₄ h₄ => wpAny_bind (wpAny_mono h₄ (fun _ s₅ h₅ => wpAny_pure (wpAny_pure ⟨rfl, h₅⟩)) fun _ _ h' => h')) fun _ _ h' => h'))

/-- the frame of a comprehension stands -/
theorem inner_frame {scope : Scope} {I : Addr} {ob : Obj} (k : C.Ok) (R : SRep C env ρ H s) (F : Free C env H I) (gI : s.heap.get? I = some ob) (good : CompGood C.sc scope) (hkind : scope.kind = .function) {h₁ : Heap} {tk : Nat}
    (hns : h₁.Ns (s.heap.objs.size + 1) fun _ => none) (hx : Ext (s.heap.push (listOf #[] 0)) h₁) :
    Inner C (C.inner scope I s.heap) scope ∧
    SRep (C.inner scope I s.heap) (compEnvC scope (clFrom env.cells scope.names []) (s.heap.objs.size + 1) env) (capt scope ρ) (H.fzAll.upd s.heap.objs.size (.list [])) { s with heap := h₁, toks := tk } ∧
    Free (C.inner scope I s.heap) (compEnvC scope (clFrom env.cells scope.names []) (s.heap.objs.size + 1) env) (H.fzAll.upd s.heap.objs.size (.list [])) I := by
  have st : ExtK C.gb s.heap := R.st k
  have x0 : Ext s.heap h₁ := (Ext.push _ _).trans hx
  have hI : I < s.heap.objs.size := Heap.lt_size gI
  have hD : h₁.get? s.heap.objs.size = some (listOf #[] 0) := hx _ _ (Heap.get?_push_size _ rfl)
  have hfree : ∀ p ∈ scope.names, p.2 = .free → ∃ ca, env.cells.lookup p.1 = some ca := fun p hp e => by
    rcases good.kinds p hp with h | ⟨_, h⟩
    · rw [h] at e; cases e
    · obtain ⟨ca, _, h1, _⟩ := R.fr.cells p.1 h; exact ⟨ca, h1⟩
  have hcl : ∀ p ∈ clFrom env.cells scope.names [], env.cells.lookup p.1 = some p.2 := cl_mem _ _ hfree fun p hp => nomatch hp
  have hcn : ((clFrom env.cells scope.names []).map (·.1)).Nodup := by
    rw [cl_names, List.map_nil, List.append_nil]
    have h1 : ((scope.names.filter (·.2 == .free)).map (·.1)).Nodup := good.names.sublist (List.filter_sublist.map _)
    exact List.pairwise_reverse.mpr (h1.imp fun e => Ne.symm e)
  have hIo : ∀ p ∈ env.cells, p.2 ≠ I := F.cell
  refine ⟨⟨⟨fun b o e => ?_, k.glob, k.nolim⟩, rfl, rfl, rfl, rfl, rfl, rfl, rfl⟩, ⟨fun b o e => ?_, ⟨?_, hkind, ?_, ?_, Nat.lt_succ_of_lt (Nat.lt_trans R.fr.low R.ltL), ⟨_, hns, fun x v h1 h2 => ?_⟩, fun x hx' => ?_, ?_, ?_, fun hro => ?_, fun p hp => ?_, fun h => by cases h⟩, ?_, fun b o e => ?_, R.gens, R.os⟩, ?_⟩
  · obtain ⟨o', h1, h2⟩ := st b o e
    refine ⟨o', ?_, h2⟩
    show (if b = I then none else s.heap.get? b) = _
    rw [if_neg fun q => ?_]
    · exact h1
    · obtain ⟨o2, h3, _⟩ := k.base b o e; rw [q, F.old] at h3; cases h3
  · have e' : (if b = I then none else s.heap.get? b) = some o := e
    split at e'
    · cases e'
    · exact .of (x0 b o e')
  · exact relab_eq R.fr.sc
  · exact R.fr.gl
  · exact R.fr.bl
  · obtain ⟨k', h3, h4⟩ := relab_lookup h1
    unfold capt at h2
    rcases h4 with e | ⟨e, _⟩
    · rw [← e] at h3; rw [h3] at h2; simp at h2
    · cases e
  · have hf : scope.names.lookup x = some .free := by
      rcases hx' with e | e
      · obtain ⟨k', h3, h4⟩ := relab_lookup e
        rcases h4 with h | ⟨_, h⟩
        · rw [← h] at h3
          rcases good.kinds _ (mem_of_lookup' h3) with q | ⟨q, _⟩ <;> cases q
        · rw [← h]; exact h3
      · obtain ⟨k', h3, h4⟩ := relab_lookup e
        rcases h4 with h | ⟨h, _⟩
        · rw [h]; exact h3
        · cases h
    have hk := good.kinds _ (mem_of_lookup' hf)
    obtain ⟨ca, co, h1, ⟨oc, h2, h2'⟩, h3⟩ := R.fr.cells x (hk.resolve_left (by intro q; cases q)).2
    have hm : x ∈ (clFrom env.cells scope.names []).map (·.1) := by
      rw [cl_names]
      simp only [List.map_nil, List.append_nil, List.mem_reverse, List.mem_map, List.mem_filter]
      exact ⟨(x, .free), ⟨mem_of_lookup' hf, rfl⟩, rfl⟩
    obtain ⟨ca', hca'⟩ := Option.isSome_iff_exists.mp (lookup_some_of_mem hm)
    have := hcl _ (mem_of_lookup' hca')
    rw [h1] at this
    cases this
    refine ⟨_, co, hca', ⟨oc, x0 _ _ h2, h2'⟩, fun v hv => ?_⟩
    unfold capt at hv
    rw [if_pos hf] at hv
    obtain ⟨c, h4, h5⟩ := h3 v hv
    exact ⟨c, h4, h5.t x0.t⟩
  · have ap := R.fr.apart
    show (clFrom env.cells scope.names []).Pairwise _
    have hp : (clFrom env.cells scope.names []).Pairwise fun x y => x.1 ≠ y.1 := List.pairwise_map.mp hcn
    refine hp.imp_of_mem fun {a b} ha hb hne e => hne ?_
    have h1 := mem_of_lookup' (hcl a ha)
    have h2 := mem_of_lookup' (hcl b hb)
    rw [← e] at h2
    exact name_of_addr ap h1 h2
  · show (if s.heap.objs.size + 1 = I then none else s.heap.get? (s.heap.objs.size + 1)) = none
    split
    · rfl
    · exact Heap.get?_none_of_le (Nat.le_succ _)
  · exact absurd hro (by show true ≠ false; decide)
  · obtain ⟨v, oc, h1, h2⟩ := R.fr.cin _ (mem_of_lookup' (hcl p hp))
    exact ⟨v, oc, x0 _ _ h1, h2⟩
  · show (H.fzAll.upd s.heap.objs.size (.list [])) (s.heap.objs.size + 1) = none
    rw [AHeap.upd_ne _ _ (by exact Nat.succ_ne_self _)]
    unfold AHeap.fzAll
    rw [R.unheld (Nat.le_succ _)]; rfl
  · unfold AHeap.upd at e
    split at e
    · rename_i hb
      subst hb
      cases e
      refine ⟨⟨_, _, hD, trivial⟩, ?_⟩
      show (if s.heap.objs.size = I then none else s.heap.get? s.heap.objs.size) = none
      split
      · rfl
      · exact Heap.get?_none_of_le (Nat.le_refl _)
    · unfold AHeap.fzAll at e
      cases q : H b with
      | none => rw [q] at e; cases e
      | some o' =>
        rw [q] at e
        obtain ⟨h1, h2, ob', h3, h4⟩ := (R.hp b o' q).1.freeze e
        refine ⟨h1.t x0.t fun ob => x0 b ob, ?_⟩
        unfold Place
        rw [h2]
        refine ⟨ob', ?_, h4⟩
        show (if b = I then none else s.heap.get? b) = _
        rw [if_neg fun e2 => ?_]
        · exact h3
        · rw [e2, F.un] at q; cases q
  · refine ⟨?_, ?_, ?_, fun p hp => hIo _ (mem_of_lookup' (hcl p hp))⟩
    · show (if I = I then none else _) = none
      rw [if_pos rfl]
    · rw [AHeap.upd_ne _ _ (Nat.ne_of_lt hI)]
      unfold AHeap.fzAll
      rw [F.un]; rfl
    · exact Nat.ne_of_lt (Nat.lt_succ_of_lt hI)
end
end Mine
end
section
open PySem PySem.W PyProof.Rows PySem.SeqAt
set_option maxRecDepth 10000
set_option autoImplicit false
set_option linter.unusedVariables false
namespace Mine
section
variable {C : Cx} {A : Around} {env : Env} {ρ : Loc} {H : AHeap} {s : Shared}
theorem Inner.toks {C C' : Cx} {scope : Scope} (x : Inner C C' scope) : C'.sc = relab scope C.sc := x.sc
/-- what a comprehension makes of each of xs -/
def Each (C : Cx) (scope : Scope) (ρ : Loc) (H₁ : AHeap) (target c elt : Expr) (xs : List AV) (p : AV → Bool) (g : AV → AV) : Prop :=
  ∀ C' ρ' H', Inner C C' scope → (∀ x v, scope.names.lookup x = some .free → ρ x = some v → ρ' x = some v) → (∀ b o, H₁.fzAll b = some o → H' b = some o) → ∀ a ∈ xs,
    TA C' target a ρ' H' fun ρ'' => (∀ x v, scope.names.lookup x = some .free → ρ x = some v → ρ'' x = some v) ∧ TT C' c ρ'' H' fun t H2 => t = p a ∧ H2 = H' ∧ (t = true → TE C' elt ρ'' H' fun v H3 => v = g a ∧ H3 = H')
theorem comp_loop {scope : Scope} {target iter c elt : Expr} {pos : Pos} {C₁ : Cx} {cenv : Env} {I D : Addr} {xs : List AV} {Kt : Nat → Obj → Prop} {Src : Heap → Prop} {H₁ H0 : AHeap} {p : AV → Bool} {g : AV → AV} {R : Result → Shared → Prop}
    (inn : Inner C C₁ scope) (ok : AOk C A env) (hn : NextR C.prog C.w I xs Kt Src) (hp : C₁.prog = C.prog) (hsrc : ∀ env ρ H s, SRep C₁ env ρ H s → Src s.heap) (he : Each C scope ρ H₁ target c elt xs p g) (hlen : xs.length < 1000) (hID : I ≠ D)
    (hH : ∀ ys b o, H₁.fzAll b = some o → (H0.upd D (.list ys)) b = some o)
    (hend : ∀ ρ' s', SRep C₁ cenv ρ' (H0.upd D (.list ((xs.filter p).map g))) s' → R (.ok .next) s') :
    ∀ (i : Nat) (ρ' : Loc) (s : Shared) (ob : Obj), i ≤ xs.length → SRep C₁ cenv ρ' (H0.upd D (.list (((xs.take i).filter p).map g))) s → (∀ x v, scope.names.lookup x = some .free → ρ x = some v → ρ' x = some v) →
      Free C₁ cenv H0 I → s.heap.get? I = some ob → Kt i ob →
      codeAny (model C.prog C.w) A (.compLoop (.ListComp elt [⟨target, iter, [c], 0⟩] scope pos) 0 (.ref I) (.ref D) cenv) R s := by
  intro i ρ' s ob hi hR hρ hF hg hK
  refine codeAny_loopL (fun n s => ∃ i ρ' ob, i ≤ xs.length ∧ SRep C₁ cenv ρ' (H0.upd D (.list (((xs.take i).filter p).map g))) s ∧ (∀ x v, scope.names.lookup x = some .free → ρ x = some v → ρ' x = some v) ∧
    Free C₁ cenv H0 I ∧ s.heap.get? I = some ob ∧ Kt i ob ∧ n = xs.length + 1 - i) (fun n s hs => ?_) (xs.length + 1 - i) ⟨i, ρ', ob, hi, hR, hρ, hF, hg, hK, rfl⟩
  clear hR hρ hF hg hK hi
  obtain ⟨i, ρ', ob, hi, hR, hρ, hF, hg, hK, rfl⟩ := hs
  have hF' : ∀ ys, Free C₁ cenv (H0.upd D (.list ys)) I := fun ys => ⟨hF.old, by rw [AHeap.upd_ne _ _ hID]; exact hF.un, hF.loc, hF.cell⟩
  refine wpAny_mono (hn.next A s i ob (ok.within.le (by decide)) (hsrc _ _ _ _ hR) hg hK hi) (fun r s₁ ⟨⟨h', tk, e1, hx⟩, hr⟩ => ?_) fun _ _ e => e.elim
  have R₁ : SRep C₁ cenv ρ' (H0.upd D (.list (((xs.take i).filter p).map g))) s₁ := hR.otherS hg (hF' _) (hn.odd _ _ hK).t (by rw [e1]; exact hx) (by rw [e1]; exact hR.gens) (by rw [e1])
  cases r with
  | none =>
    have hr' : i = xs.length := hr
    subst hr'
    rw [List.take_length] at R₁
    exact hend _ _ R₁
  | some cv =>
    obtain ⟨v, ob', hxi, hvc, hg', hK'⟩ := hr
    have hlt : i < xs.length := (List.getElem?_eq_some_iff.mp hxi).1
    obtain ⟨T, hT, hne⟩ := hn.ty _ _ hK'
    refine wpAny_mono (letGo_no (C := C) (t := target) (v := cv) (Q := fun _ s => s = s₁) hg' hT hne rfl) (fun _ s₁' e => ?_) fun _ _ e => e.elim
    subst e
    have inn' := inn.hold I ob'
    have ok' : AOk (C₁.hold I ob') A cenv := (ok.inner inn.room inn.stk : AOk C₁ A cenv).hold I ob'
    have hW : ∀ {α : Type} {t : Sem α} {Q : α → Shared → Prop} {s : Shared}, W (C₁.hold I ob') A t Q s → wpAny (model C.prog C.w) A t Q (fun _ _ => False) s := fun {α t Q s} h => by
      have e1 : (C₁.hold I ob').prog = C.prog := hp
      have e2 : (C₁.hold I ob').w = C.w := inn.w
      unfold W at h; rw [e1, e2] at h; exact h
    refine wpAny_mono (hW (he (C₁.hold I ob') ρ' _ inn' hρ (hH _) v (List.mem_of_getElem? hxi) A cenv s₁' cv ok' (R₁.free hg' (hF' _)) hvc)) (fun _ s₂ ⟨ρ₂, R₂, t₂, hρ₂, htt⟩ => ?_) fun _ _ e => e.elim
    rw [List.forIn_cons]
    refine wpAny_bind ?_
    simp only [if_true]
    refine wpAny_bind (wpAny_mono (hW (htt A cenv s₂ ok' R₂)) (fun t s₃ ⟨t₃, H2, R₃, e1, e2, hel⟩ => ?_) fun _ _ e => e.elim)
    subst e2
    refine wpAny_pure ?_
    dsimp only
    rw [List.forIn_nil]
    refine wpAny_pure ?_
    have etake : (xs.take (i + 1)).filter p = (xs.take i).filter p ++ (if p v = true then [v] else []) := take_succ_filter p xs i v hxi
    cases t with
    | false =>
      simp only [Bool.false_eq_true, if_false]
      obtain ⟨R₄, g₄, F₄⟩ := R₃.back (hn.odd _ _ hK') hF.old
      refine ⟨xs.length + 1 - (i + 1), by omega, i + 1, ρ₂, ob', hlt, ?_, hρ₂, hF, g₄, hK', rfl⟩
      rw [etake, ← e1]
      simpa using R₄
    | true =>
      simp only [if_true]
      refine wpAny_mono (hW (hel rfl A cenv s₃ ok' R₃)) (fun x s₄ ⟨t₄, av, H3, hav, R₄, e3, e4⟩ => ?_) fun _ _ e => e.elim
      subst e3; subst e4
      have hl : (((xs.take i).filter p).map g).length ≤ sizeLine := by
        rw [List.length_map]
        have h1 := List.length_filter_le p (xs.take i)
        have h2 : (xs.take i).length ≤ xs.length := by rw [List.length_take]; omega
        have : sizeLine = 2 ^ 24 := rfl
        omega
      refine wpAny_mono (hW (TC_append (C := C₁.hold I ob') (Q := fun _ H' => H' = (H0.upd D (.list (((xs.take i).filter p).map g))).upd D (.list (((xs.take i).filter p).map g ++ [g v]))) (AHeap.upd_self _ _ _) hl rfl A cenv ρ₂ s₄ [.ref D, x] ok' R₄ ⟨rfl, hav, trivial⟩)) (fun r s₅ ⟨t₅, av', H5, hav', R₅, e5⟩ => ?_) fun _ _ e => e.elim
      subst e5
      rw [upd_upd] at R₅
      obtain ⟨R₆, g₆, F₆⟩ := R₅.back (hn.odd _ _ hK') hF.old
      refine ⟨xs.length + 1 - (i + 1), by omega, i + 1, ρ₂, ob', hlt, ?_, hρ₂, hF, g₆, hK', rfl⟩
      rw [etake, ← e1]
      simpa using R₆
end
end Mine
end
section
open PySem PySem.W PyProof.Rows PySem.SeqAt
set_option maxRecDepth 10000
set_option autoImplicit false
set_option linter.unusedVariables false
namespace Mine
section
variable {C : Cx} {A : Around} {env : Env} {ρ : Loc} {H : AHeap} {s : Shared}
theorem inner_frame' {scope : Scope} {I Ca : Addr} {ob : Obj} (hCa : Ca = s.heap.objs.size + 1) (k : C.Ok) (R : SRep C env ρ H s) (F : Free C env H I) (gI : s.heap.get? I = some ob) (good : CompGood C.sc scope) (hkind : scope.kind = .function) {h₁ : Heap} {tk : Nat}
    (hns : h₁.Ns Ca fun _ => none) (hx : Ext (s.heap.push (listOf #[] 0)) h₁) :
    Inner C (C.inner scope I s.heap) scope ∧
    SRep (C.inner scope I s.heap) (compEnvC scope (clFrom env.cells scope.names []) Ca env) (capt scope ρ) (H.fzAll.upd s.heap.objs.size (.list [])) { s with heap := h₁, toks := tk } ∧
    Free (C.inner scope I s.heap) (compEnvC scope (clFrom env.cells scope.names []) Ca env) (H.fzAll.upd s.heap.objs.size (.list [])) I := by
  subst hCa; exact inner_frame k R F gI good hkind hns hx
theorem comp_core {elt target iter c : Expr} {scope : Scope} {pos pos' : Pos} {use : Option (Value → Sem Unit)} {Q : Value → Shared → Prop} (k : C.Ok) (ok : AOk C A env) (R : SRep C env ρ H s) (hgood : compGood C.sc scope = true) (hkind : scope.kind = .function)
    (hs : ∀ (env : Env) x, foldedSetIterable iter env x = pure x)
    (h : TE C iter ρ H fun v H₁ => ∃ Vals src, IterSome C v H₁ Vals src ∧ ∀ xs, Vals xs → ∃ p g, xs.length < 1000 ∧ Each C scope ρ H₁ target c elt xs p g ∧
      ∀ D Ca s', H₁ D = none → TExt s.heap s'.heap → SRep C env ρ (H₁.upd D (.list ((xs.filter p).map g))) s' → Free C env (H₁.upd D (.list ((xs.filter p).map g))) Ca → (∃ m, s'.heap.Ns Ca m) →
        compPost (model C.prog C.w) A (fun _ _ => False) use Q (.ref D) Ca (.ok .next) s') :
    W C A (comprehension (.ListComp elt [⟨target, iter, [c], 0⟩] scope pos) scope env pos' (newList []) false (eval iter env) use) Q s := by
  have good := compGood_ok hgood
  have hfree : ∀ p ∈ scope.names, p.2 = .free → ∃ ca, env.cells.lookup p.1 = some ca := fun p hp e => by
    rcases good.kinds p hp with h | ⟨_, h⟩
    · rw [h] at e; cases e
    · obtain ⟨ca, _, h1, _⟩ := R.fr.cells p.1 h; exact ⟨ca, h1⟩
  have hnc : ∀ x ∈ scope.names, x.2 ≠ .cell := fun x hx e => by
    rcases good.kinds x hx with h | ⟨h, _⟩ <;> rw [h] at e <;> cases e
  refine wpAny_comprehension_free (use := use) rfl (hs env) (closureFor_ok hfree) hkind (fun x hx e => e ▸ lookup_nodup good.names hx) ?_
  refine W.mono (h A env s ok R) fun x s₁ ⟨t₁, v, H₁, h1, R₁, Vals, src, hit, hb⟩ => W.mono (hit A env ρ s₁ x (ok.within.le (by decide)) R₁ h1) fun it s₂ ⟨t₂, R₂, I, ob, Kt, xs, hvals, e, F, g, hK, hnof, hraw⟩ => ?_
  subst e
  obtain ⟨⟨h', tk, es2, hx2⟩, hIge, Src, hn, hstab⟩ := hraw
  obtain ⟨p, gg, hlen, hE, hfin⟩ := hb xs hvals
  refine wpAny_newList (wpAny_newFunctionEnv hnc (by intro y hy; simp at hy) (fun h₁ hns hsb => ?_) hkind)
  have hpsz : (s₂.heap.push (listOf #[] 0)).objs.size = s₂.heap.objs.size + 1 := Heap.size_push ..
  have hns' : h₁.Ns (s₂.heap.push (listOf #[] 0)).objs.size fun _ => none := hns
  have hx1 : Ext (s₂.heap.push (listOf #[] 0)) h₁ := fun b o e => (hsb.2 b (Nat.ne_of_lt (Heap.lt_size e))).trans (Heap.get?_push_of_some _ e)
  obtain ⟨inn, R₃, F₃⟩ := inner_frame' (tk := s₂.toks + 0) hpsz k R₂ F g good hkind hns' hx1
  have hI : I < s₂.heap.objs.size := Heap.lt_size g
  have x23 : Ext s₂.heap h₁ := (Ext.push _ _).trans hx1
  have loop : codeAny (model C.prog C.w) A (.compLoop (.ListComp elt [⟨target, iter, [c], 0⟩] scope pos) 0 (.ref I) (.ref s₂.heap.objs.size) (compEnvC scope (clFrom env.cells scope.names []) (s₂.heap.push (listOf #[] 0)).objs.size env))
      (compPost (model C.prog C.w) A (fun _ _ => False) use Q (.ref s₂.heap.objs.size) (s₂.heap.push (listOf #[] 0)).objs.size) { s₂ with heap := h₁, toks := s₂.toks + 0 } := by
    refine comp_loop (C₁ := C.inner scope I s₂.heap) (H0 := H₁.fzAll) (p := p) (g := gg) inn ok hn rfl (fun env' ρ' H' s' R' => hstab _ fun b o hb e => R'.keep b o (by show (if b = I then none else s₂.heap.get? b) = _; rw [if_neg hb]; exact e)) hE hlen (Nat.ne_of_lt hI)
      (fun ys b o e => ?_) (fun ρ' s' R' => ?_) 0 _ _ ob (Nat.zero_le _) (by simpa using R₃) (fun x v h1 h2 => by unfold capt; rw [if_pos h1]; exact h2) ⟨F₃.old, ?_, F₃.loc, F₃.cell⟩ (x23 _ _ g) hK
    · rw [AHeap.upd_ne _ _ fun q => ?_]
      · exact e
      · unfold AHeap.fzAll at e
        rw [q, R₂.unheld (Nat.le_refl _)] at e; cases e
    · have hx : ExtBK I s₂.heap s'.heap := fun b o hb e => R'.keep b o (by show (if b = I then none else s₂.heap.get? b) = _; rw [if_neg hb]; exact e)
      have hodd := hn.odd _ _ hK
      have R₄ : SRep C env ρ H₁ s' := R₂.otherK g F hodd.t hx R'.gens (R'.os.trans R₂.os.symm)
      have hDsh := (R'.hp _ _ (AHeap.upd_self _ _ _)).1
      have R₅ : SRep C env ρ (H₁.upd s₂.heap.objs.size (.list ((xs.filter p).map gg))) s' := R₄.add ⟨hDsh, R₂.fresh (Nat.le_refl _)⟩ (Nat.ne_of_gt R₂.ltL)
      have fr := R₂.freshAt (a := (s₂.heap.push (listOf #[] 0)).objs.size) (by rw [hpsz]; exact Nat.le_succ _)
      obtain ⟨m, hm, _⟩ := R'.fr.ns
      exact hfin _ _ s' (R₂.unheld (Nat.le_refl _)) ((t₁.trans t₂).trans (TExt.otherK g hodd.t hx)) R₅ (fr.upd (by rw [hpsz]; exact Nat.succ_ne_self _)) ⟨m, hm⟩
    · unfold AHeap.fzAll; rw [F.un]; rfl
  refine codeAny_compStart_list loop ?_
  exact wpAny_mono (hn.self A _ 0 ob _ (x23 _ _ g) hK loop) (fun _ _ h => h) fun _ _ e => e.elim

theorem TE_listcomp {elt target iter c : Expr} {scope : Scope} {pos : Pos} {Q : AV → AHeap → Prop} (k : C.Ok) (hgood : compGood C.sc scope = true) (hkind : scope.kind = .function)
    (hs : ∀ (env : Env) x, foldedSetIterable iter env x = pure x)
    (h : TE C iter ρ H fun v H₁ => ∃ Vals src, IterSome C v H₁ Vals src ∧ ∀ xs, Vals xs → ∃ p g, xs.length < 1000 ∧ Each C scope ρ H₁ target c elt xs p g ∧ ∀ r, H₁ r = none → Q (.ref r) (H₁.upd r (.list ((xs.filter p).map g)))) :
    TE C (.ListComp elt [⟨target, iter, [c], 0⟩] scope pos) ρ H Q := fun A env s ok R => by
  rw [eval_ListComp]
  refine comp_core (use := none) k ok R hgood hkind hs (h.mono fun v H₁ ⟨Vals, src, hit, hb⟩ => ⟨Vals, src, hit, fun xs hv => ?_⟩)
  obtain ⟨p, g, h1, h2, h3⟩ := hb xs hv
  refine ⟨p, g, h1, h2, fun D Ca s' hD t R' F hm => ?_⟩
  obtain ⟨m, hm⟩ := hm
  refine ⟨m, hm, fun h' sb => ?_⟩
  obtain ⟨oC, es, ep, hoC, hdC, _⟩ := id hm
  have nt : ∀ vs n, oC ≠ tupObj vs n := fun vs n e => by rw [e] at hdC; cases hdC
  exact ⟨t.trans (TExt.other hoC nt sb.extBut), .ref D, _, rfl, R'.other (tk := s'.toks) hoC F.old F.un F.loc F.cell nt sb.extBut, h3 D hD⟩

theorem comp_use {elt target iter c : Expr} {scope : Scope} {pos : Pos} {u : Value → Sem Unit} {P : Shared → Prop} (k : C.Ok) (ok : AOk C A env) (R : SRep C env ρ H s) (hgood : compGood C.sc scope = true) (hkind : scope.kind = .function)
    (hs : ∀ (env : Env) x, foldedSetIterable iter env x = pure x)
    (h : TE C iter ρ H fun v H₁ => ∃ Vals src, IterSome C v H₁ Vals src ∧ ∀ xs, Vals xs → ∃ p g, xs.length < 1000 ∧ Each C scope ρ H₁ target c elt xs p g ∧
      ∀ D Ca s', H₁ D = none → TExt s.heap s'.heap → SRep C env ρ (H₁.upd D (.list ((xs.filter p).map g))) s' → Free C env (H₁.upd D (.list ((xs.filter p).map g))) Ca → (∃ m, s'.heap.Ns Ca m) →
        W C A (u (.ref D)) (fun _ s'' => ∃ m, s''.heap.Ns Ca m ∧ ∀ h', Heap.SameBut Ca s''.heap h' → P { s'' with heap := h' }) s') :
    W C A (evalThenUse (.ListComp elt [⟨target, iter, [c], 0⟩] scope pos) env u) (fun _ s' => P s') s := by
  have e1 : evalThenUse (.ListComp elt [⟨target, iter, [c], 0⟩] scope pos) env u = (comprehension (.ListComp elt [⟨target, iter, [c], 0⟩] scope pos) scope env (firstIterPos [⟨target, iter, [c], 0⟩] pos) (newList []) false (eval iter env) (some u) >>= fun _ => pure ()) := rfl
  rw [e1]
  refine wpAny_bind (W.mono (comp_core (use := some u) (Q := fun _ s' => P s') k ok R hgood hkind hs (h.mono fun v H₁ ⟨Vals, src, hit, hb⟩ => ⟨Vals, src, hit, fun xs hv => ?_⟩)) fun _ s' hp => wpAny_pure hp)
  obtain ⟨p, g, h1, h2, h3⟩ := hb xs hv
  exact ⟨p, g, h1, h2, fun D Ca s' hD t R' F hm => h3 D Ca s' hD t R' F hm⟩
theorem SRep.dropU {a : Addr} {o : Obj} (R : SRep (C.hold a o) env ρ H s) (hn : H a = none) : SRep C env ρ H s where
  keep := fun b x e => R.keep b x (Cx.hold_old e)
  fr := ⟨R.fr.sc, R.fr.kind, R.fr.gl, R.fr.bl, R.fr.low, R.fr.ns, R.fr.cells, R.fr.apart, Cx.hold_none R.fr.newL, fun hro p hp => Cx.hold_none (R.fr.newC hro p hp), R.fr.cin, R.fr.frm⟩
  sep := R.sep
  hp := fun b x e => by
    have y := R.hp b x e
    have hb : b ≠ a := fun q => by rw [q, hn] at e; cases e
    refine ⟨y.1, ?_⟩
    have p := y.2
    unfold Place at p ⊢
    cases hf : x.fz with
    | true => rw [hf] at p; obtain ⟨ob, h1, h2⟩ := p; rw [Cx.hold_ne hb] at h1; exact ⟨ob, h1, h2⟩
    | false => rw [hf] at p; exact Cx.hold_none p
  gens := R.gens
  os := R.os
/-- a store, while an object that is no one's stands by -/
theorem store_by {x : Str} {v : AV} {c : Value} {Ca : Addr} {m : Str → Option Value} {Q : Unit → Shared → Prop} (R : SRep C env ρ H s) (hk : stOk C x = true) (hv : VRep s.heap v c) (F : Free C env H Ca) (hm : s.heap.Ns Ca m)
    (h : ∀ s', SRep C env (ρ.upd x v) H s' → TExt s.heap s'.heap → s'.heap.Ns Ca m → Free C env H Ca → Q () s') : W C A (bindName env x c) Q s := by
  obtain ⟨oC, es, ep, hoC, hdC, hr⟩ := id hm
  refine (R.free hoC F).store (C := C.hold Ca oC) hk hv fun s' R' t => ?_
  have g' := R'.keep Ca oC (Cx.hold_at F.old)
  exact h s' (R'.dropU F.un) t (ns_k hm fun o g => by rw [hoC] at g; cases g; exact g') F
/-- x = [..] on one line: the value is stored as the comprehension ends -/
theorem TS_assignC {elt target iter c : Expr} {scope : Scope} {cpos : Pos} {x : Str} {p' pos : Pos} {Q : AFlow → Loc → AHeap → Prop} (k : C.Ok) (hgood : compGood C.sc scope = true) (hkind : scope.kind = .function)
    (hs : ∀ (env : Env) x, foldedSetIterable iter env x = pure x) (hk : stOk C x = true)
    (hsw : ∀ env : Env, env.scope = C.sc → swapsWithSole [.Name x p'] (.ListComp elt [⟨target, iter, [c], 0⟩] scope cpos) pos.line env = pure true)
    (h : TE C iter ρ H fun v H₁ => ∃ Vals src, IterSome C v H₁ Vals src ∧ ∀ xs, Vals xs → ∃ p g, xs.length < 1000 ∧ Each C scope ρ H₁ target c elt xs p g ∧ ∀ r, H₁ r = none → Q .next (ρ.upd x (.ref r)) (H₁.upd r (.list ((xs.filter p).map g)))) :
    TS C (.Assign [.Name x p'] (.ListComp elt [⟨target, iter, [c], 0⟩] scope cpos) pos) ρ H Q := fun A env s ok R => by
  rw [arm_exec_Assign]
  refine wpAny_bind (wpAny_standAt ?_)
  rw [hsw env R.fr.sc]
  refine wpAny_bind (wpAny_pure ?_)
  rw [if_pos rfl]
  refine wpAny_bind (W.mono (comp_use (P := fun s' => EndF C env Q .next s') k ok R hgood hkind hs (h.mono fun v H₁ ⟨Vals, src, hit, hb⟩ => ⟨Vals, src, hit, fun xs hv => ?_⟩)) fun _ s' hp => wpAny_pure hp)
  obtain ⟨p, g, h1, h2, h3⟩ := hb xs hv
  refine ⟨p, g, h1, h2, fun D Ca s' hD t R' F hm => ?_⟩
  obtain ⟨m, hm⟩ := hm
  show wpAny _ _ (assignAll (.ref D) [fun v => do standAt p'; bindName env x v]) _ _ _
  show wpAny _ _ (do standAt p'; bindName env x (.ref D) : Sem Unit) _ _ _
  refine wpAny_bind (wpAny_standAt (store_by (v := .ref D) R' hk rfl F hm fun s'' R'' t'' hm'' F'' => ⟨m, hm'', fun h' sb => ?_⟩))
  obtain ⟨oC, es, ep, hoC, hdC, hr⟩ := id hm''
  have nt : ∀ vs n, oC ≠ tupObj vs n := fun vs n e => by rw [e] at hdC; cases hdC
  exact ⟨.next, _, _, rfl, R''.other (tk := s''.toks) hoC F''.old F''.un F''.loc F''.cell nt sb.extBut, h3 D hD⟩
end
end Mine
end
section
open PySem PySem.W PyProof.Rows PySem.SeqAt
set_option maxRecDepth 10000
set_option autoImplicit false
set_option linter.unusedVariables false
namespace Mine
section
variable {C : Cx} {A : Around} {env : Env} {ρ : Loc} {H : AHeap} {s : Shared}
theorem T2_getL {a : Addr} {xs : List AV} {k : Int} {x : AV} {Q : AV → AHeap → Prop} (hx : H.items a = some xs) (h0 : 0 ≤ k) (hk : k < 2 ^ 63) (hg : xs[k.toNat]? = some x) (h : Q x H) : T2 C getItem (.ref a) (.int k) H Q := fun A env ρ s va vb ok R h1 h2 => by
  obtain rfl := h1; obtain ⟨u, rfl⟩ := h2
  obtain ⟨vs, hl, hr⟩ := (R.listAt hx).isList
  obtain ⟨c, hc, hv⟩ := hr.get hg
  exact wpAny_getItem_list hl h0 hk (by simpa using hc) ⟨TExt.refl _, x, H, hv, R, h⟩
theorem TS_augsub {o i value : Expr} {tpos pos : Pos} {op : Operator} {Q : AFlow → Loc → AHeap → Prop}
    (hi : ∀ ov iv new, augStore i ov iv new = (do holding [new, ov, iv] (setItem ov iv new); release [new, ov, iv] []; pure .next))
    (h : TE C o ρ H fun ov H₁ => TE C i ρ H₁ fun iv H₂ => T2 C getItem ov iv H₂ fun old H₃ => TE C value ρ H₃ fun v H₄ => T2 C (inplaceOp op) old v H₄ fun new H₅ => TSet C ov iv new H₅ fun H₆ => Q .next ρ H₆) :
    TS C (.AugAssign (.Subscript o i tpos) op value pos) ρ H Q := fun A env s ok R => by
  refine wpAny_AugAssign_SubscriptAny (W.mono (h A env s ok R) fun ov s₁ ⟨t₁, av, H₁, h1, R₁, h2⟩ => W.mono (h2 A env s₁ ok R₁) fun iv s₂ ⟨t₂, aw, H₂, h3, R₂, h4⟩ =>
    W.mono (h4 A env ρ s₂ ov iv ok R₂ (h1.t t₂) h3) fun old s₃ ⟨t₃, ao, H₃, h5, R₃, h6⟩ => W.mono (h6 A env s₃ ok R₃) fun v s₄ ⟨t₄, aval, H₄, h7, R₄, h8⟩ =>
    W.mono (h8 A env ρ s₄ old v ok R₄ (h5.t t₄) h7) fun new s₅ ⟨t₅, an, H₅, h9, R₅, h10⟩ => W.mono (h10 A env ρ s₅ ov iv new ok R₅ (h1.t (((t₂.trans t₃).trans t₄).trans t₅)) (h3.t ((t₃.trans t₄).trans t₅)) h9) fun _ s₆ ⟨t₆, H₆, R₆, hq⟩ => ?_) hi
  exact ⟨.next, ρ, H₆, rfl, R₆, hq⟩
theorem ld_of {sc : Scope} {x : Str} (h : C.sc = sc) (hl : ldOk sc x = true) : ldOk C.sc x = true := h ▸ hl
theorem gl_of {sc : Scope} {x : Str} (h : C.sc = sc) (hl : glOk sc x = true) : glOk C.sc x = true := h ▸ hl
def stB (sc : Scope) (x : Str) : Bool := match sc.names.lookup x with
  | some .local | some .cell => true
  | _ => false
theorem st_of {sc : Scope} {x : Str} (h : C.sc = sc) (hro : C.ro = false) (hl : stB sc x = true) : stOk C x = true := by
  unfold stOk; unfold stB at hl
  rw [h, hro]
  revert hl
  cases sc.names.lookup x with
  | none => intro h; cases h
  | some k => cases k <;> intro h <;> first | rfl | cases h
theorem TB.mono {a : AV} {Q Q' : Bool → AHeap → Prop} (x : TB C a H Q) (h : ∀ b H, Q b H → Q' b H) : TB C a H Q' := fun A env ρ s va ok R hv => (x A env ρ s va ok R hv).mono fun b s' ⟨t, H', R', q⟩ => ⟨t, H', R', h _ _ q⟩
theorem T2.mono {t : Value → Value → Sem Value} {a b : AV} {Q Q' : AV → AHeap → Prop} (x : T2 C t a b H Q) (h : ∀ a H, Q a H → Q' a H) : T2 C t a b H Q' := fun A env ρ s va vb ok R h1 h2 => (x A env ρ s va vb ok R h1 h2).mono fun _ _ y => y.mono h
theorem TC.mono {f : Value} {as : List AV} {Q Q' : AV → AHeap → Prop} (x : TC C f as H Q) (h : ∀ a H, Q a H → Q' a H) : TC C f as H Q' := fun A env ρ s vs ok R hv => (x A env ρ s vs ok R hv).mono fun _ _ y => y.mono h
theorem TT.mono {e : Expr} {Q Q' : Bool → AHeap → Prop} (x : TT C e ρ H Q) (h : ∀ b H, Q b H → Q' b H) : TT C e ρ H Q' := fun A env s ok R => (x A env s ok R).mono fun b s' ⟨t, H', R', q⟩ => ⟨t, H', R', h _ _ q⟩
end
end Mine
end
section
open PySem PySem.W PyProof.Rows PySem.SeqAt
set_option maxRecDepth 10000
set_option autoImplicit false
set_option linter.unusedVariables false
namespace Mine
/-- the body, the scope of the i-th statement of the text where it is a def -/
def fnB (i : Nat) : List Stmt := match PySem.Challenge.pw_bn5030_01.main.body[i]? with
  | some (.FunctionDef _ _ b _ _ _ _ _ _ _) => b
  | _ => []
def fnS (i : Nat) : Scope := match PySem.Challenge.pw_bn5030_01.main.body[i]? with
  | some (.FunctionDef _ _ _ _ _ _ s _ _ _) => s
  | _ => default
/-- one step of the first loop, of the second -/
def stepA (a : List Int) (q : Int × Int) : List Int := a.set q.1.toNat (Builtin.bitOr (a.getD q.1.toNat 0) (1 * 2 ^ q.2.toNat))
def stepB (mid : Nat) (a : List Int) (t : Nat) : List Int :=
  if (Builtin.bitAnd ((a.getD t 0).fdiv (2 ^ mid)) 1 != 0) = true then a.set t (Builtin.bitOr (a.getD t 0) (a.getD mid 0)) else a
def aheadOf (n : Nat) (ps : List (Int × Int)) : List Int :=
  (List.range n).foldl (fun a mid => (List.range n).foldl (stepB mid) a) (ps.foldl stepA (List.replicate n 0))
theorem stepA_length (a : List Int) (q : Int × Int) : (stepA a q).length = a.length := by simp [stepA]
theorem stepB_length (mid : Nat) (a : List Int) (t : Nat) : (stepB mid a t).length = a.length := by unfold stepB; split <;> simp
theorem foldA_length (ps : List (Int × Int)) : ∀ a : List Int, (ps.foldl stepA a).length = a.length := by
  induction ps with
  | nil => intro a; rfl
  | cons p ps ih => intro a; rw [List.foldl_cons, ih, stepA_length]
theorem foldB_length (mid : Nat) (l : List Nat) : ∀ a : List Int, (l.foldl (stepB mid) a).length = a.length := by
  induction l with
  | nil => intro a; rfl
  | cons p ps ih => intro a; rw [List.foldl_cons, ih, stepB_length]
theorem foldC_length (n : Nat) (l : List Nat) : ∀ a : List Int, (l.foldl (fun a mid => (List.range n).foldl (stepB mid) a) a).length = a.length := by
  induction l with
  | nil => intro a; rfl
  | cons p ps ih => intro a; rw [List.foldl_cons, ih, foldB_length]
theorem take_foldl {α β : Type} (f : β → α → β) (b : β) (l : List α) (i : Nat) (x : α) (h : l[i]? = some x) : (l.take (i + 1)).foldl f b = f ((l.take i).foldl f b) x := by
  rw [List.take_add_one, h, List.foldl_append]; rfl
theorem item_int {l : List Int} {i : Nat} {v : AV} (h : (l.map AV.int)[i]? = some v) : ∃ x, l[i]? = some x ∧ v = .int x := by
  rw [List.getElem?_map] at h
  cases q : l[i]? with
  | none => rw [q] at h; cases h
  | some x => rw [q] at h; exact ⟨x, rfl, (Option.some.inj h).symm⟩
theorem item_pair {l : List (Int × Int)} {i : Nat} {v : AV} (h : (l.map AV.pair)[i]? = some v) : ∃ x, l[i]? = some x ∧ v = .pair x := by
  rw [List.getElem?_map] at h
  cases q : l[i]? with
  | none => rw [q] at h; cases h
  | some x => rw [q] at h; exact ⟨x, rfl, (Option.some.inj h).symm⟩
theorem upto_get? {n i : Nat} {x : Int} (h : (upto n)[i]? = some x) : x = i ∧ i < n := by
  unfold upto at h
  rw [List.getElem?_map] at h
  by_cases q : i < n
  · rw [List.getElem?_range q] at h; exact ⟨(Option.some.inj h).symm, q⟩
  · rw [List.getElem?_eq_none (by simpa using Nat.le_of_not_lt q)] at h; cases h
end Mine
end
section
open PySem PySem.W PyProof.Rows PySem.SeqAt
set_option maxRecDepth 10000
set_option autoImplicit false
set_option linter.unusedVariables false
namespace Mine
/-- what the first loop leaves -/
theorem ahead_walk {C : Cx} {ρ : Loc} {H : AHeap} {n : Nat} {pa : Addr} {ps : List (Int × Int)} (k : C.Ok) (hsc : C.sc = fnS 10) (hro : C.ro = false) (hrange : C.G "range" = some (.type "range"))
    (hn : ρ "n" = some (.int n)) (hp : ρ "pairs" = some (.ref pa)) (hps : H pa = some (.ro (ps.map .pair))) (hn5 : n ≤ 5) (hlen : ps.length < 100) (hin : ∀ p ∈ ps, (0 ≤ p.1 ∧ p.1 < n) ∧ 0 ≤ p.2 ∧ p.2 < n) :
    TSs C (fnB 10) ρ H fun f ρ' H' => ∃ r, f = .ret (.ref r) ∧ H' r = some (.list ((aheadOf n ps).map .int)) := by
  have hsl : sizeLine = 2 ^ 24 := rfl
  unfold fnB
  refine TSs_cons (TS_assign (fun env => rfl) (st_of hsc hro rfl) (TE_bin (TE_list (TEs_cons (fun env => rfl) (TE_int (TEs_nil ⟨by decide, fun r hr => ?_⟩))))))
  refine TE_name (ld_of hsc rfl) hn (T2_rep (AHeap.upd_self _ _ _) (by omega) (by omega) fun r2 hr2 => ?_)
  have e0 : List.replicate (n : Int).toNat (AV.int 0) = (List.replicate n (0 : Int)).map .int := by simp
  rw [e0]
  have hpa : pa ≠ r := fun q => by rw [q, hr] at hps; cases hps
  have hpa2 : pa ≠ r2 := fun q => by subst q; rw [AHeap.upd_ne _ _ hpa, hps] at hr2; cases hr2
  -- the first loop
  refine TSs_cons (TS_for (fun env x => rfl) (TE_name (ld_of hsc rfl) (v := .ref pa) (by exact hp) ⟨_, _, (iter_list (xs := ps.map .pair) (by
    show ((H.upd r _).upd r2 _ pa).bind AObj.items? = _
    rw [AHeap.upd_ne _ _ hpa2, AHeap.upd_ne _ _ hpa, hps]; rfl)).some, fun xs hx => ?_⟩))
  subst hx
  refine ⟨fun i ρ' H' => ρ' "n" = some (.int n) ∧ ρ' "pairs" = some (.ref pa) ∧ ρ' "ahead" = some (.ref r2) ∧ H' pa = some (.ro (ps.map .pair)) ∧ H' r2 = some (.list (((ps.take i).foldl stepA (List.replicate n 0)).map .int)), ⟨hn, hp, rfl, by rw [AHeap.upd_ne _ _ hpa2, AHeap.upd_ne _ _ hpa]; exact hps, AHeap.upd_self _ _ _⟩, fun i ρ' H' h => by unfold AHeap.items; rw [h.2.2.2.1]; rfl, fun i ρ₂ H₂ v hv hI I ob => ?_, fun ρ₂ H₂ hI => ?_⟩
  · obtain ⟨q, hq, rfl⟩ := item_pair hv
    obtain ⟨h1, h2, h3, h4, h5⟩ := hI
    have hqi := hin q (List.mem_of_getElem? hq)
    refine TA_tuple (xs := ["p", "c"]) (fun env => .name (.inr ⟨_, rfl⟩) (.name (.inr ⟨_, rfl⟩) .nil)) (fun env => rfl) (fun x hx => ?_) rfl rfl (fun env => rfl) ?_
    · rcases (by simpa using hx) with rfl | rfl
      · exact st_of hsc hro rfl
      · exact st_of hsc hro rfl
    · refine TSs_cons (TS_augsub (fun _ _ _ => rfl) (TE_name (ld_of hsc rfl) (v := .ref r2) h3 (TE_name (ld_of hsc rfl) (v := .int q.1) rfl ?_)))
      have hl : ((ps.take i).foldl stepA (List.replicate n 0)).length = n := by rw [foldA_length]; simp
      generalize hA : (ps.take i).foldl stepA (List.replicate n 0) = a at h5 hl ⊢
      have hlt : q.1.toNat < a.length := by omega
      refine T2_getL (x := .int (a.getD q.1.toNat 0)) (by unfold AHeap.items; rw [h5]; rfl) hqi.1.1 (by omega) (by rw [List.getElem?_map, List.getElem?_eq_getElem hlt]; simp [List.getD_eq_getElem?_getD, List.getElem?_eq_getElem hlt]) ?_
      refine TE_bin (TE_int (TE_name (ld_of hsc rfl) (v := .int q.2) rfl (T2_shl hqi.2.1 (by omega) (by decide) (T2_ior ?_))))
      refine TSet_list h5 hqi.1.1 (by simpa using hlt) (by simp; omega) ?_
      refine TSs_nil ⟨h1, h2, h3, ?_, ?_⟩
      · rw [AHeap.upd_ne _ _ hpa2]; exact h4
      · rw [AHeap.upd_self, take_foldl _ _ _ _ _ hq, hA]
        unfold stepA
        simp
  · obtain ⟨h1, h2, h3, h4, h5⟩ := hI
    simp only [List.length_map, List.take_length] at h5
    have hl0 : (ps.foldl stepA (List.replicate n 0)).length = n := by rw [foldA_length]; simp
    generalize hA0 : ps.foldl stepA (List.replicate n 0) = a0 at h5 hl0
    refine TSs_nil (TSs_cons (TS_for (fun env x => rfl) (TE_call k (gl_of hsc rfl) hrange trivial (fun env => ⟨_, _, rfl, rfl⟩) (TEs_cons (fun env => rfl) (TE_name (ld_of hsc rfl) h1 (TEs_nil (TC_range fun r hr => ⟨_, _, (iter_range (n := n) (by omega) (AHeap.upd_self _ _ _)).some, fun xs hx => ?_⟩)))))))
    subst hx
    have hr2r : r2 ≠ r := fun q => by rw [q, hr] at h5; cases h5
    refine ⟨fun i ρ' H' => ρ' "n" = some (.int n) ∧ ρ' "ahead" = some (.ref r2) ∧ H' r2 = some (.list ((((List.range n).take i).foldl (fun a mid => (List.range n).foldl (stepB mid) a) a0).map .int)), ⟨h1, h3, by rw [AHeap.upd_ne _ _ hr2r]; exact h5⟩, fun _ _ _ _ => trivial, fun i ρ₃ H₃ v hv hI I ob => ?_, fun ρ₃ H₃ hI => ?_⟩
    · obtain ⟨x, hx, rfl⟩ := item_int hv
      obtain ⟨rfl, hi⟩ := upto_get? hx
      obtain ⟨g1, g2, g3⟩ := hI
      have hl : (((List.range n).take i).foldl (fun a mid => (List.range n).foldl (stepB mid) a) a0).length = n := by rw [foldC_length]; exact hl0
      have hnx : (List.range n)[i]? = some i := List.getElem?_range hi
      generalize hA : ((List.range n).take i).foldl (fun a mid => (List.range n).foldl (stepB mid) a) a0 = a at g3 hl
      refine TA_name (st_of hsc hro rfl) ?_
      refine TSs_cons (TS_for (fun env x => rfl) (TE_call (C := C.hold I ob) (k.hold I ob) (gl_of hsc rfl) hrange trivial (fun env => ⟨_, _, rfl, rfl⟩) (TEs_cons (fun env => rfl) (TE_name (ld_of hsc rfl) g1 (TEs_nil (TC_range fun r' hr' => ⟨_, _, (iter_range (n := n) (by omega) (AHeap.upd_self _ _ _)).some, fun xs hx => ?_⟩))))))
      subst hx
      have hr2r' : r2 ≠ r' := fun q => by rw [q, hr'] at g3; cases g3
      refine ⟨fun j ρ' H' => ρ' "n" = some (.int n) ∧ ρ' "ahead" = some (.ref r2) ∧ ρ' "mid" = some (.int i) ∧ H' r2 = some (.list ((((List.range n).take j).foldl (stepB i) a).map .int)), ⟨g1, g2, rfl, by rw [AHeap.upd_ne _ _ hr2r']; exact g3⟩, fun _ _ _ _ => trivial, fun j ρ₄ H₄ v hv hI I2 ob2 => ?_, fun ρ₄ H₄ hI => ?_⟩
      · obtain ⟨x, hx, rfl⟩ := item_int hv
        obtain ⟨rfl, hj⟩ := upto_get? hx
        obtain ⟨f1, f2, f3, f4⟩ := hI
        have hl2 : (((List.range n).take j).foldl (stepB i) a).length = n := by rw [foldB_length]; exact hl
        have hnj : (List.range n)[j]? = some j := List.getElem?_range hj
        generalize hB : ((List.range n).take j).foldl (stepB i) a = b at f4 hl2
        have gget : ∀ m, m < n → (b.map AV.int)[((m : Int)).toNat]? = some (.int (b.getD m 0)) := fun m hm => by
          rw [Int.toNat_natCast, List.getElem?_map, List.getElem?_eq_getElem (by omega)]
          simp [List.getD_eq_getElem?_getD, List.getElem?_eq_getElem (show m < b.length by omega)]
        refine TA_name (st_of hsc hro rfl) (TSs_cons (TS_if (TT_val (fun env whole => rfl) (TE_bin (TE_bin (TE_idx (fun _ _ => rfl) (TE_name (ld_of hsc rfl) (v := .ref r2) f2 (TE_name (ld_of hsc rfl) (v := .int j) rfl ⟨r2, _, j, _, rfl, rfl, by unfold AHeap.items; rw [f4]; rfl, by omega, by omega, gget j hj, ?_⟩))))))))
        refine TE_name (ld_of hsc rfl) (v := .int i) f3 (T2_shr (by omega) (TE_int (T2_and (TB_int ?_))))
        have estep : ((List.range n).take (j + 1)).foldl (stepB i) a = stepB i b j := by rw [take_foldl _ _ _ _ _ hnj, hB]
        by_cases hc : (Builtin.bitAnd ((b.getD j 0).fdiv (2 ^ i)) 1 != 0) = true
        · have hc' : (Builtin.bitAnd ((b.getD j 0).fdiv (2 ^ ((i : Int)).toNat)) 1 != 0) = true := by rw [Int.toNat_natCast]; exact hc
          rw [if_pos hc']
          refine TSs_cons (TS_augsub (fun _ _ _ => rfl) (TE_name (ld_of hsc rfl) (v := .ref r2) f2 (TE_name (ld_of hsc rfl) (v := .int j) rfl (T2_getL (by unfold AHeap.items; rw [f4]; rfl) (by omega) (by omega) (gget j hj) ?_))))
          refine TE_idx (fun _ _ => rfl) (TE_name (ld_of hsc rfl) (v := .ref r2) f2 (TE_name (ld_of hsc rfl) (v := .int i) f3 ⟨r2, _, i, _, rfl, rfl, by unfold AHeap.items; rw [f4]; rfl, by omega, by omega, gget i hi, T2_ior (TSet_list f4 (by omega) (by simp; omega) (by simp; omega) (TSs_nil (TSs_nil ⟨f1, f2, f3, ?_⟩)))⟩))
          rw [AHeap.upd_self, estep]
          unfold stepB
          rw [if_pos hc]
          simp
        · have hc' : ¬ (Builtin.bitAnd ((b.getD j 0).fdiv (2 ^ ((i : Int)).toNat)) 1 != 0) = true := by rw [Int.toNat_natCast]; exact hc
          rw [if_neg hc']
          refine TSs_nil (TSs_nil ⟨f1, f2, f3, ?_⟩)
          rw [f4, estep]
          unfold stepB
          rw [if_neg hc]
      · obtain ⟨f1, f2, f3, f4⟩ := hI
        refine TSs_nil (TSs_nil ⟨f1, f2, ?_⟩)
        rw [f4, take_foldl _ _ _ _ _ hnx, hA]
        simp only [List.length_map, upto_length, List.take_range, Nat.min_self]
    · obtain ⟨g1, g2, g3⟩ := hI
      refine TSs_nil (TSs_cons (TS_ret (TE_name (ld_of hsc rfl) g2 ⟨r2, rfl, ?_⟩)))
      rw [g3]
      simp only [List.length_map, upto_length, List.take_range, Nat.min_self]
      rw [← hA0]; rfl
end Mine
end
section
open PySem PySem.W PyProof.Rows PySem.SeqAt
set_option maxRecDepth 10000
set_option autoImplicit false
set_option linter.unusedVariables false
namespace Mine
/-- f is the def that is the i-th statement of the text -/
def FnAt (gb : Heap) (f : Value) (i : Nat) (ps : List Str) : Prop :=
  ∃ fa o fd, f = .ref fa ∧ gb.get? fa = some o ∧ o.data = .func fd ∧ o.cls = .type "function" ∧ gb.CodeRec fd.code fd.qualname ∧ fd.body = .stmts (fnB i) ∧ fd.closure = [] ∧ fd.globals = mainGlobals ∧ fd.builtins = builtinsNs ∧ fd.scope = fnS i ∧
    ∀ vals : List Value, vals.length = ps.length → bindArgs fd ⟨vals, []⟩ = pure (ps.zip vals)
/-- the names of the text -/
structure Fns (G : Str → Option Value) (gb : Heap) : Prop where
  range : G "range" = some (.type "range")
  list : G "list" = some (.type "list")
  set : G "set" = some (.type "set")
  sorted : G "sorted" = some (.builtin "sorted")
  isinstance : G "isinstance" = some (.builtin "isinstance")
  bool : G "bool" = some (.type "bool")
  dd : G "defaultdict" = some (.type "collections.defaultdict")
  cycles : ∃ f, G "find_cycles" = some f ∧ FnAt gb f 6 ["tuples", "allitems"]
  edges : ∃ f, G "_gen_edges" = some f ∧ FnAt gb f 7 ["edges"]
  drawn : ∃ f, G "_law_drawn" = some f ∧ FnAt gb f 9 ["script"]
  ahead : ∃ f, G "_law_ahead" = some f ∧ FnAt gb f 10 ["n", "pairs"]
  rings : ∃ f, G "_law_rings" = some f ∧ FnAt gb f 11 ["n", "pairs"]
  between : ∃ f, G "_law_between" = some f ∧ FnAt gb f 12 ["n", "pairs", "pair"]
  made : ∃ f, G "_law_made" = some f ∧ FnAt gb f 13 ["laid", "pairs", "tables"]
  right : ∃ f, G "_law_right" = some f ∧ FnAt gb f 14 ["pairs", "tables", "rings"]
  one : ∃ f, G "_law_one_by_one" = some f ∧ FnAt gb f 15 ["n", "tables", "fixed", "loose"]
section
variable {C : Cx} {A : Around} {env : Env} {ρ : Loc} {H : AHeap} {s : Shared}
theorem FnAt.callee {f : Value} {i : Nat} {ps : List Str} (F : FnAt C.gb f i ps) : Callee C f := by
  obtain ⟨fa, o, fd, rfl, g, d, hc, _⟩ := F
  exact ⟨o, fd, g, d, by rw [hc]; exact fun q => absurd (Value.type.inj q) (by decide)⟩
theorem TC_fn {f : Value} {i : Nat} {ps : List Str} {avs : List AV} {Q : AV → AHeap → Prop} (F : FnAt C.gb f i ps) (k : C.Ok) (hr : 0 < C.room) (hk : (fnS i).kind = .function) (hco : (fnS i).isCoroutine = false) (hgen : (fnS i).isGenerator = false) (hsc : scGood (fnS i) ps = true) (hps : avs.length = ps.length)
    (h : ∀ C', C'.Ok → C'.sc = fnS i → C'.ro = false → C'.G = C.G → C'.gb = C.gb → C'.room = C.room - 1 → C'.prog = C.prog → C'.w = C.w → TSs C' (fnB i) (fun x => (ps.zip avs).lookup x) H.fzAll fun f ρ' H' => ∃ v L, (f = .ret v ∨ (f = .next ∧ v = .none)) ∧ (∀ b ∈ L, ∃ o, H' b = some o ∧ o.fz = false) ∧ ((∀ b ∈ L, H b = none) → Q v (H.adopt H' L))) :
    TC C f avs H Q := by
  obtain ⟨fa, o, fd, rfl, g, d, hc, hcd, hbody, hclo, hg, hb, hs, hbind⟩ := F
  refine TC_fun k hr g d (by rw [hc]; exact fun q => absurd (Value.type.inj q) (by decide)) hcd hbody hclo hg hb (hs ▸ hk) (hs ▸ hco) (hs ▸ hgen) hps hbind (hs ▸ hsc) fun hB k' => ?_
  exact h _ k' hs rfl rfl rfl rfl rfl rfl
theorem fz_list {H : AHeap} {a : Addr} {xs : List AV} (h : H.items a = some xs) : H.fzAll a = some (.ro xs) := by
  unfold AHeap.items at h
  unfold AHeap.fzAll
  cases q : H a with
  | none => rw [q] at h; cases h
  | some o =>
    rw [q] at h
    cases o with
    | list ys => cases h; rfl
    | ro ys => cases h; rfl
    | _ => cases h
/-- a new list is given back -/
theorem ret_list {H H' : AHeap} {r : Addr} {xs : List AV} {Q : AV → AHeap → Prop} (h : H' r = some (.list xs)) (hq : ∀ r, H r = none → Q (.ref r) (H.upd r (.list xs))) :
    ∃ v L, (AFlow.ret (.ref r) = .ret v ∨ (AFlow.ret (.ref r) = .next ∧ v = .none)) ∧ (∀ b ∈ L, ∃ o, H' b = some o ∧ o.fz = false) ∧ ((∀ b ∈ L, H b = none) → Q v (H.adopt H' L)) :=
  ⟨.ref r, [r], .inl rfl, fun b hb => by rw [List.mem_singleton] at hb; subst hb; exact ⟨_, h, rfl⟩, fun hn => by rw [adopt_one h]; exact hq r (hn r (by simp))⟩
/-- _law_ahead(n, pairs) -/
theorem TC_ahead {f : Value} {n : Nat} {pa : Addr} {ps : List (Int × Int)} {Q : AV → AHeap → Prop} (F : FnAt C.gb f 10 ["n", "pairs"]) (fs : Fns C.G C.gb) (k : C.Ok) (hr : 0 < C.room) (hp : H.items pa = some (ps.map .pair)) (hn5 : n ≤ 5) (hlen : ps.length < 100)
    (hin : ∀ p ∈ ps, (0 ≤ p.1 ∧ p.1 < n) ∧ 0 ≤ p.2 ∧ p.2 < n) (hq : ∀ r, H r = none → Q (.ref r) (H.upd r (.list ((aheadOf n ps).map .int)))) : TC C f [.int n, .ref pa] H Q := by
  refine TC_fn F k hr rfl rfl rfl rfl rfl fun C' k' hsc hro hG hgb _ _ _ => ?_
  exact (ahead_walk k' hsc hro (by rw [hG]; exact fs.range) rfl rfl (fz_list hp) hn5 hlen hin).mono fun f ρ' H' ⟨r, e, h⟩ => by rw [e]; exact ret_list h hq
end
end Mine
end
section
open PySem PySem.W PyProof.Rows PySem.SeqAt
set_option maxRecDepth 10000
set_option autoImplicit false
set_option linter.unusedVariables false
namespace Mine
/-- bit k of item i -/
def bitAt (a : List Int) (i k : Nat) : Bool := Builtin.bitAnd ((a.getD i 0).fdiv (2 ^ k)) 1 != 0
def ringsOf (n : Nat) (ps : List (Int × Int)) : List Int := (upto n).filter fun t => bitAt (aheadOf n ps) t.toNat t.toNat
theorem aheadOf_length (n : Nat) (ps : List (Int × Int)) : (aheadOf n ps).length = n := by
  unfold aheadOf; rw [foldC_length, foldA_length]; simp
/-- a test of an int -/
def onInt (f : Int → Bool) : AV → Bool
  | .b (.int t) => f t
  | _ => false
theorem filter_onInt (f : Int → Bool) (l : List Int) : (((l.map AV.int).filter (onInt f)).map id) = (l.filter f).map .int := by
  rw [List.map_id, List.filter_map]; rfl
theorem get_int {l : List Int} {m : Nat} (hm : m < l.length) : (l.map AV.int)[((m : Int)).toNat]? = some (.int (l.getD m 0)) := by
  rw [Int.toNat_natCast, List.getElem?_map, List.getElem?_eq_getElem hm]
  simp [List.getD_eq_getElem?_getD, List.getElem?_eq_getElem hm]
section
variable {C : Cx} {A : Around} {env : Env} {ρ : Loc} {H : AHeap} {s : Shared}
theorem rings_walk {n : Nat} {pa : Addr} {ps : List (Int × Int)} (fs : Fns C.G C.gb) (k : C.Ok) (hr : 0 < C.room) (hsc : C.sc = fnS 11) (hro : C.ro = false)
    (hn : ρ "n" = some (.int n)) (hp : ρ "pairs" = some (.ref pa)) (hps : H pa = some (.ro (ps.map .pair))) (hn5 : n ≤ 5) (hlen : ps.length < 100) (hin : ∀ p ∈ ps, (0 ≤ p.1 ∧ p.1 < n) ∧ 0 ≤ p.2 ∧ p.2 < n) :
    TSs C (fnB 11) ρ H fun f ρ' H' => ∃ r, f = .ret (.ref r) ∧ H' r = some (.list ((ringsOf n ps).map .int)) := by
  have hsl : sizeLine = 2 ^ 24 := rfl
  obtain ⟨fv, hfv, F⟩ := fs.ahead
  unfold fnB
  refine TSs_cons (TS_assign (fun env => rfl) (st_of hsc hro rfl) (TE_call k (gl_of hsc rfl) hfv F.callee (fun env => ⟨_, _, rfl, rfl⟩) (TEs_cons (fun env => rfl) (TE_name (ld_of hsc rfl) hn (TEs_cons (fun env => rfl) (TE_name (ld_of hsc rfl) hp (TEs_nil ?_)))))))
  refine TC_ahead F fs k hr (by unfold AHeap.items; rw [hps]; rfl) hn5 hlen hin fun r hr' => ?_
  refine TSs_cons (TS_ret (TE_listcomp k (by rw [hsc]; rfl) rfl (fun env x => rfl) (TE_call k (gl_of hsc rfl) fs.range trivial (fun env => ⟨_, _, rfl, rfl⟩) (TEs_cons (fun env => rfl) (TE_name (ld_of hsc rfl) (v := .int n) (by exact hn) (TEs_nil (TC_range fun r2 hr2 => ⟨_, _, (iter_range (n := n) (by omega) (AHeap.upd_self _ _ _)).some, fun xs hx => ?_⟩)))))))
  subst hx
  refine ⟨onInt fun t => bitAt (aheadOf n ps) t.toNat t.toNat, id, by simp [upto_length]; omega, fun C' ρ' H' inn hcap hfz a ha => ?_, fun r3 hr3 => ⟨r3, rfl, ?_⟩⟩
  · obtain ⟨t, ht, rfl⟩ := List.mem_map.mp ha
    obtain ⟨i, hi⟩ := List.getElem?_of_mem ht
    obtain ⟨rfl, hil⟩ := upto_get? hi
    have hA : ρ' "ahead" = some (.ref r) := hcap _ _ rfl rfl
    have hne : r ≠ r2 := fun q => by rw [q, AHeap.upd_self] at hr2; cases hr2
    have hH : H' r = some (.ro ((aheadOf n ps).map .int)) := hfz r _ (by
      unfold AHeap.fzAll; rw [AHeap.upd_ne _ _ hne, AHeap.upd_self]; rfl)
    have hsc' := inn.sc
    rw [hsc] at hsc'
    refine TA_name (by unfold stOk; rw [hsc']; rfl) ⟨fun x v h1 h2 => ?_, ?_⟩
    · by_cases e : x = "t"
      · subst e; exact absurd h1 (by decide)
      · rw [Loc.upd_ne _ _ e]; exact hcap x v h1 h2
    · refine TT_val (fun env whole => rfl) (TE_bin (TE_bin (TE_idx (fun _ _ => rfl) (TE_name (ld_of hsc' rfl) (v := .ref r) hA (TE_name (ld_of hsc' rfl) (v := .int i) rfl ⟨r, _, i, _, rfl, rfl, by unfold AHeap.items; rw [hH]; rfl, by omega, by omega, get_int (by rw [aheadOf_length]; exact hil), ?_⟩)))))
      refine TE_name (ld_of hsc' rfl) (v := .int i) rfl (T2_shr (by omega) (TE_int (T2_and (TB_int ⟨?_, rfl, fun _ => TE_name (ld_of hsc' rfl) (v := .int i) rfl ⟨rfl, rfl⟩⟩))))
      show _ = bitAt (aheadOf n ps) ((i : Int)).toNat ((i : Int)).toNat
      rw [Int.toNat_natCast]; rfl
  · rw [AHeap.upd_self, filter_onInt]; rfl
end
end Mine
end
section
open PySem PySem.W PyProof.Rows PySem.SeqAt
set_option maxRecDepth 10000
set_option autoImplicit false
set_option linter.unusedVariables false
namespace Mine
def betweenOf (n : Nat) (ps : List (Int × Int)) (q : Int × Int) : List Int :=
  ((upto n).filter fun t => t == q.2 || bitAt (aheadOf n ps) q.2.toNat t.toNat).filter fun t => t == q.1 || bitAt (aheadOf n ps) t.toNat q.1.toNat
section
variable {C : Cx} {A : Around} {env : Env} {ρ : Loc} {H : AHeap} {s : Shared}
theorem TC_rings {f : Value} {n : Nat} {pa : Addr} {ps : List (Int × Int)} {Q : AV → AHeap → Prop} (F : FnAt C.gb f 11 ["n", "pairs"]) (fs : Fns C.G C.gb) (k : C.Ok) (hr : 1 < C.room) (hp : H.items pa = some (ps.map .pair)) (hn5 : n ≤ 5) (hlen : ps.length < 100)
    (hin : ∀ p ∈ ps, (0 ≤ p.1 ∧ p.1 < n) ∧ 0 ≤ p.2 ∧ p.2 < n) (hq : ∀ r, H r = none → Q (.ref r) (H.upd r (.list ((ringsOf n ps).map .int)))) : TC C f [.int n, .ref pa] H Q := by
  refine TC_fn F k (by omega) rfl rfl rfl rfl rfl fun C' k' hsc hro hG hgb hrm _ _ => ?_
  exact (rings_walk (by rw [hG, hgb]; exact fs) k' (by omega) hsc hro rfl rfl (fz_list hp) hn5 hlen hin).mono fun f ρ' H' ⟨r, e, h⟩ => by rw [e]; exact ret_list h hq
theorem sw_true {sc scope : Scope} {x : Str} {p' cpos : Pos} {elt : Expr} {gens : List Comprehension} {line : Nat} (h : C.sc = sc) (hk : sc.kind = .function) (hx : sc.names.lookup x = some .local) (hl : (p'.line == cpos.line) = true)
    (hc : (scope.names.any fun (n, k) => n == x && (k == .local || k == .cell)) = false) : ∀ env : Env, env.scope = C.sc → swapsWithSole [.Name x p'] (.ListComp elt gens scope cpos) line env = pure true := fun env e => by
  have e1 : env.scope = sc := e.trans h
  have e2 : env.kindOf x = some .local := by unfold Env.kindOf; rw [e1]; exact hx
  have e3 : env.blockKind = .function := by unfold Env.blockKind; rw [e1, hk]; rfl
  show (pure (env.blockKind == .function && env.kindOf x == some .local && p'.line == cpos.line && !(scope.names.any fun (n, k) => n == x && (k == .local || k == .cell))) : Sem Bool) = pure true
  rw [e2, e3, hl, hc]; rfl
theorem between_walk {n : Nat} {pa : Addr} {ps : List (Int × Int)} {q : Int × Int} (fs : Fns C.G C.gb) (k : C.Ok) (hr : 0 < C.room) (hsc : C.sc = fnS 12) (hro : C.ro = false)
    (hn : ρ "n" = some (.int n)) (hp : ρ "pairs" = some (.ref pa)) (hpq : ρ "pair" = some (.pair q)) (hps : H pa = some (.ro (ps.map .pair))) (hn5 : n ≤ 5) (hlen : ps.length < 100) (hin : ∀ p ∈ ps, (0 ≤ p.1 ∧ p.1 < n) ∧ 0 ≤ p.2 ∧ p.2 < n)
    (hq : (0 ≤ q.1 ∧ q.1 < n) ∧ 0 ≤ q.2 ∧ q.2 < n) :
    TSs C (fnB 12) ρ H fun f ρ' H' => ∃ r, f = .ret (.ref r) ∧ H' r = some (.list ((betweenOf n ps q).map .int)) := by
  have hsl : sizeLine = 2 ^ 24 := rfl
  obtain ⟨fv, hfv, F⟩ := fs.ahead
  unfold fnB
  refine TSs_cons (TS_assign (fun env => rfl) (st_of hsc hro rfl) (TE_call k (gl_of hsc rfl) hfv F.callee (fun env => ⟨_, _, rfl, rfl⟩) (TEs_cons (fun env => rfl) (TE_name (ld_of hsc rfl) hn (TEs_cons (fun env => rfl) (TE_name (ld_of hsc rfl) hp (TEs_nil ?_)))))))
  refine TC_ahead F fs k hr (by unfold AHeap.items; rw [hps]; rfl) hn5 hlen hin fun r hr' => ?_
  refine TSs_cons (TS_assignC k (by rw [hsc]; rfl) rfl (fun env x => rfl) (st_of hsc hro rfl) (sw_true hsc rfl rfl rfl rfl)
    (TE_call k (gl_of hsc rfl) fs.range trivial (fun env => ⟨_, _, rfl, rfl⟩) (TEs_cons (fun env => rfl) (TE_name (ld_of hsc rfl) (v := .int n) (by exact hn) (TEs_nil (TC_range fun r2 hr2 => ⟨_, _, (iter_range (n := n) (by omega) (AHeap.upd_self _ _ _)).some, fun xs hx => ?_⟩))))))
  subst hx
  have hne : r ≠ r2 := fun e => by rw [e, AHeap.upd_self] at hr2; cases hr2
  refine ⟨onInt fun t => t == q.2 || bitAt (aheadOf n ps) q.2.toNat t.toNat, id, by simp [upto_length]; omega, fun C' ρ' H' inn hcap hfz a ha => ?_, fun r3 hr3 => ?_⟩
  · obtain ⟨t, ht, rfl⟩ := List.mem_map.mp ha
    obtain ⟨i, hi⟩ := List.getElem?_of_mem ht
    obtain ⟨rfl, hil⟩ := upto_get? hi
    have hA : ρ' "ahead" = some (.ref r) := hcap _ _ rfl rfl
    have hP : ρ' "pair" = some (.pair q) := hcap _ _ rfl (by exact hpq)
    have hH : H' r = some (.ro ((aheadOf n ps).map .int)) := hfz r _ (by
      unfold AHeap.fzAll; rw [AHeap.upd_ne _ _ hne, AHeap.upd_self]; rfl)
    have hsc' := inn.sc
    rw [hsc] at hsc'
    refine TA_name (by unfold stOk; rw [hsc']; rfl) ⟨fun x v h1 h2 => ?_, ?_⟩
    · by_cases e : x = "t"
      · subst e; exact absurd h1 (by decide)
      · rw [Loc.upd_ne _ _ e]; exact hcap x v h1 h2
    · refine TT.mono (Q := fun b H3 => b = onInt (fun t => t == q.2 || bitAt (aheadOf n ps) q.2.toNat t.toNat) (.int i) ∧ H3 = H') ?_ fun b H3 ⟨e1, e2⟩ => ⟨e1, e2, fun _ => TE_name (ld_of hsc' rfl) (v := .int i) rfl ⟨rfl, rfl⟩⟩
      refine TT_bool (TAll_or (TT_cmp rfl (TE_name (ld_of hsc' rfl) (v := .int i) rfl (TE_idxT (fun _ _ => rfl) (TE_name (ld_of hsc' rfl) (v := .pair q) hP (TE_int ⟨q, rfl, .inr ⟨rfl, T2_eqi ⟨_, rfl, ?_⟩⟩⟩))))))
      by_cases hc : ((i : Int) == q.2) = true
      · rw [if_pos hc]
        exact ⟨by show _ = ((i : Int) == q.2 || _); rw [hc]; rfl, rfl⟩
      · rw [if_neg hc]
        refine TAll_or (TT_val (fun env whole => rfl) (TE_bin (TE_bin (TE_idx (fun _ _ => rfl) (TE_name (ld_of hsc' rfl) (v := .ref r) hA (TE_idxT (fun _ _ => rfl) (TE_name (ld_of hsc' rfl) (v := .pair q) hP (TE_int ⟨q, rfl, .inr ⟨rfl, ?_⟩⟩))))))))
        have hq2 : q.2 = ((q.2.toNat : Nat) : Int) := by omega
        have gg : ((aheadOf n ps).map AV.int)[q.2.toNat]? = some (.int ((aheadOf n ps).getD q.2.toNat 0)) := by
          have := get_int (l := aheadOf n ps) (m := q.2.toNat) (by rw [aheadOf_length]; omega)
          rwa [Int.toNat_natCast] at this
        refine ⟨r, _, q.2, _, rfl, rfl, by unfold AHeap.items; rw [hH]; rfl, hq.2.1, by omega, gg, ?_⟩
        refine TE_name (ld_of hsc' rfl) (v := .int i) rfl (T2_shr (by omega) (TE_int (T2_and (TB_int ?_))))
        have eb : (Builtin.bitAnd (((aheadOf n ps).getD q.2.toNat 0).fdiv (2 ^ ((i : Int)).toNat)) 1 != 0) = bitAt (aheadOf n ps) q.2.toNat ((i : Int)).toNat := rfl
        rw [eb]
        have hcf : ((i : Int) == q.2) = false := by simpa using hc
        by_cases hb : bitAt (aheadOf n ps) q.2.toNat ((i : Int)).toNat = true
        · rw [if_pos hb]
          exact ⟨by show _ = (((i : Int) == q.2) || bitAt (aheadOf n ps) q.2.toNat ((i : Int)).toNat); rw [hb, hcf]; rfl, rfl⟩
        · rw [if_neg hb]
          refine TAll_nil ⟨?_, rfl⟩
          show _ = (((i : Int) == q.2) || bitAt (aheadOf n ps) q.2.toNat ((i : Int)).toNat)
          rw [hcf, Bool.eq_false_iff.mpr hb]; rfl
  · rw [filter_onInt]
    generalize hA : ((upto n).filter fun t => t == q.2 || bitAt (aheadOf n ps) q.2.toNat t.toNat) = af
    have haf : ∀ t ∈ af, ∃ i : Nat, t = i ∧ i < n := fun t ht => by
      rw [← hA] at ht
      obtain ⟨i, hi⟩ := List.getElem?_of_mem (List.mem_filter.mp ht).1
      obtain ⟨rfl, hil⟩ := upto_get? hi
      exact ⟨i, rfl, hil⟩
    have hafl : af.length < 1000 := by
      rw [← hA]
      have := List.length_filter_le (fun t : Int => t == q.2 || bitAt (aheadOf n ps) q.2.toNat t.toNat) (upto n)
      rw [upto_length] at this
      omega
    have hr3' : r ≠ r3 := fun e => by rw [← e, AHeap.upd_ne _ _ hne, AHeap.upd_self] at hr3; cases hr3
    refine TSs_cons (TS_ret (TE_listcomp k (by rw [hsc]; rfl) rfl (fun env x => rfl) (TE_name (ld_of hsc rfl) (v := .ref r3) rfl ⟨_, _, (iter_list (xs := af.map .int) (by unfold AHeap.items; rw [AHeap.upd_self]; rfl)).some, fun xs hx => ?_⟩)))
    subst hx
    refine ⟨onInt fun t => t == q.1 || bitAt (aheadOf n ps) t.toNat q.1.toNat, id, by simpa using hafl, fun C' ρ' H' inn hcap hfz a ha => ?_, fun r4 hr4 => ⟨r4, rfl, ?_⟩⟩
    · obtain ⟨t, ht, rfl⟩ := List.mem_map.mp ha
      obtain ⟨i, rfl, hil⟩ := haf t ht
      have hA' : ρ' "ahead" = some (.ref r) := hcap _ _ rfl rfl
      have hP : ρ' "pair" = some (.pair q) := hcap _ _ rfl (by exact hpq)
      have hH : H' r = some (.ro ((aheadOf n ps).map .int)) := hfz r _ (by
        unfold AHeap.fzAll; rw [AHeap.upd_ne _ _ hr3', AHeap.upd_ne _ _ hne, AHeap.upd_self]; rfl)
      have hsc' := inn.sc
      rw [hsc] at hsc'
      refine TA_name (by unfold stOk; rw [hsc']; rfl) ⟨fun x v h1 h2 => ?_, ?_⟩
      · by_cases e : x = "t"
        · subst e; exact absurd h1 (by decide)
        · rw [Loc.upd_ne _ _ e]; exact hcap x v h1 h2
      · refine TT.mono (Q := fun b H3 => b = onInt (fun t => t == q.1 || bitAt (aheadOf n ps) t.toNat q.1.toNat) (.int i) ∧ H3 = H') ?_ fun b H3 ⟨e1, e2⟩ => ⟨e1, e2, fun _ => TE_name (ld_of hsc' rfl) (v := .int i) rfl ⟨rfl, rfl⟩⟩
        refine TT_bool (TAll_or (TT_cmp rfl (TE_name (ld_of hsc' rfl) (v := .int i) rfl (TE_idxT (fun _ _ => rfl) (TE_name (ld_of hsc' rfl) (v := .pair q) hP (TE_int ⟨q, rfl, .inl ⟨rfl, T2_eqi ⟨_, rfl, ?_⟩⟩⟩))))))
        by_cases hc : ((i : Int) == q.1) = true
        · rw [if_pos hc]
          exact ⟨by show _ = ((i : Int) == q.1 || _); rw [hc]; rfl, rfl⟩
        · rw [if_neg hc]
          refine TAll_or (TT_val (fun env whole => rfl) (TE_bin (TE_bin (TE_idx (fun _ _ => rfl) (TE_name (ld_of hsc' rfl) (v := .ref r) hA' (TE_name (ld_of hsc' rfl) (v := .int i) rfl ⟨r, _, i, _, rfl, rfl, by unfold AHeap.items; rw [hH]; rfl, by omega, by omega, get_int (by rw [aheadOf_length]; exact hil), ?_⟩))))))
          refine TE_idxT (fun _ _ => rfl) (TE_name (ld_of hsc' rfl) (v := .pair q) hP (TE_int ⟨q, rfl, .inl ⟨rfl, T2_shr hq.1.1 (TE_int (T2_and (TB_int ?_)))⟩⟩))
          have eb : (Builtin.bitAnd (((aheadOf n ps).getD i 0).fdiv (2 ^ q.1.toNat)) 1 != 0) = bitAt (aheadOf n ps) i q.1.toNat := rfl
          rw [eb]
          have hcf : ((i : Int) == q.1) = false := by simpa using hc
          by_cases hb : bitAt (aheadOf n ps) i q.1.toNat = true
          · rw [if_pos hb]
            exact ⟨by show _ = (((i : Int) == q.1) || bitAt (aheadOf n ps) ((i : Int)).toNat q.1.toNat); rw [Int.toNat_natCast, hb, hcf]; rfl, rfl⟩
          · rw [if_neg hb]
            refine TAll_nil ⟨?_, rfl⟩
            show _ = (((i : Int) == q.1) || bitAt (aheadOf n ps) ((i : Int)).toNat q.1.toNat)
            rw [Int.toNat_natCast, hcf, Bool.eq_false_iff.mpr hb]; rfl
    · rw [AHeap.upd_self, filter_onInt, ← hA]; rfl
theorem TC_between {f : Value} {n : Nat} {pa : Addr} {ps : List (Int × Int)} {q : Int × Int} {Q : AV → AHeap → Prop} (F : FnAt C.gb f 12 ["n", "pairs", "pair"]) (fs : Fns C.G C.gb) (k : C.Ok) (hr : 1 < C.room) (hp : H.items pa = some (ps.map .pair)) (hn5 : n ≤ 5) (hlen : ps.length < 100)
    (hin : ∀ p ∈ ps, (0 ≤ p.1 ∧ p.1 < n) ∧ 0 ≤ p.2 ∧ p.2 < n) (hq5 : (0 ≤ q.1 ∧ q.1 < n) ∧ 0 ≤ q.2 ∧ q.2 < n) (hq : ∀ r, H r = none → Q (.ref r) (H.upd r (.list ((betweenOf n ps q).map .int)))) : TC C f [.int n, .ref pa, .pair q] H Q := by
  refine TC_fn F k (by omega) rfl rfl rfl rfl rfl fun C' k' hsc hro hG hgb hrm _ _ => ?_
  exact (between_walk (by rw [hG, hgb]; exact fs) k' (by omega) hsc hro rfl rfl rfl (fz_list hp) hn5 hlen hin hq5).mono fun f ρ' H' ⟨r, e, h⟩ => by rw [e]; exact ret_list h hq
end
end Mine
end
section
open PySem PySem.W PyProof.Rows PySem.SeqAt
set_option maxRecDepth 10000
set_option autoImplicit false
set_option linter.unusedVariables false
namespace Mine
theorem dt {p : Prop} (d : Decidable p) (h : p) : @decide p d = true := decide_eq_true h
theorem df {p : Prop} (d : Decidable p) (h : ¬ p) : @decide p d = false := decide_eq_false h
theorem meth_append : Meth "list" "append" "list.append" := ⟨PySem.F.plainAttrs_list, PySem.F.slot_list_append, PySem.F.type_list_append⟩
theorem meth_reverse : Meth "list" "reverse" "list.reverse" := ⟨PySem.F.plainAttrs_list, PySem.F.slot_list_reverse, PySem.F.type_list_reverse⟩
/-- what the law draws from its list of ints -/
def dFirst (scr : List Int) : Int := scr.headD 0
def dN (scr : List Int) : Nat := ((dFirst scr).fmod 3 + 3).toNat
def dTurn (scr : List Int) : Nat := (((dFirst scr).fdiv 3).fmod (dN scr)).toNat
def dTables (scr : List Int) : List Int :=
  let t := (upto (dN scr)).drop (dTurn scr) ++ (upto (dN scr)).take (dTurn scr)
  if (((dFirst scr).fdiv 15).fmod 2 != 0) = true then t.reverse else t
def dPair (n : Nat) (x : Int) : Int × Int := ((x.fdiv 3).fmod n, ((x.fdiv 3).fdiv n).fmod n)
def dStep (n : Nat) (fl : List (Int × Int) × List (Int × Int)) (x : Int) : List (Int × Int) × List (Int × Int) :=
  if dPair n x ∈ fl.1 ∨ dPair n x ∈ fl.2 then fl
  else if x.fmod 3 = 0 ∧ (dPair n x).1 ≠ (dPair n x).2 then (fl.1 ++ [dPair n x], fl.2) else (fl.1, fl.2 ++ [dPair n x])
def dPairs (scr : List Int) : List (Int × Int) × List (Int × Int) := (cut scr (some 1) (some 8)).foldl (dStep (dN scr)) ([], [])
theorem dN_eq (scr : List Int) : (dN scr : Int) = (dFirst scr).fmod 3 + 3 := by
  unfold dN
  have := Int.fmod_nonneg_of_pos (dFirst scr) (show (0 : Int) < 3 by decide)
  omega
theorem dN_le (scr : List Int) : 3 ≤ dN scr ∧ dN scr ≤ 5 := by
  have := dN_eq scr
  have h1 := Int.fmod_nonneg_of_pos (dFirst scr) (show (0 : Int) < 3 by decide)
  have h2 := Int.fmod_lt_of_pos (dFirst scr) (show (0 : Int) < 3 by decide)
  omega
theorem dTurn_eq (scr : List Int) : (dTurn scr : Int) = ((dFirst scr).fdiv 3).fmod (dN scr) := by
  unfold dTurn
  have := Int.fmod_nonneg_of_pos ((dFirst scr).fdiv 3) (show (0 : Int) < dN scr by have := dN_le scr; omega)
  omega
theorem dStep_length (n : Nat) (fl : List (Int × Int) × List (Int × Int)) (x : Int) : (dStep n fl x).1.length + (dStep n fl x).2.length ≤ fl.1.length + fl.2.length + 1 := by
  unfold dStep
  split
  · omega
  · split <;> simp <;> omega
theorem dFold_length (n : Nat) : ∀ (l : List Int) (fl : List (Int × Int) × List (Int × Int)), (l.foldl (dStep n) fl).1.length + (l.foldl (dStep n) fl).2.length ≤ fl.1.length + fl.2.length + l.length
  | [], fl => by simp
  | x :: xs, fl => by
    rw [List.foldl_cons]
    have h1 := dFold_length n xs (dStep n fl x)
    have h2 := dStep_length n fl x
    simp only [List.length_cons]; omega
section
variable {C : Cx} {A : Around} {env : Env} {ρ : Loc} {H : AHeap} {s : Shared}
theorem drawn_walk {sa : Addr} {scr : List Int} (fs : Fns C.G C.gb) (k : C.Ok) (hsc : C.sc = fnS 9) (hro : C.ro = false) (hs : ρ "script" = some (.ref sa)) (hH : H sa = some (.ro (scr.map .int))) (hlen : scr.length < 1000) :
    TSs C (fnB 9) ρ H fun f ρ' H' => ∃ t a b, f = .ret (.tup [.int (dN scr), .ref t, .ref a, .ref b]) ∧ H' t = some (.list ((dTables scr).map .int)) ∧ H' a = some (.list ((dPairs scr).1.map .pair)) ∧ H' b = some (.list ((dPairs scr).2.map .pair)) ∧ t ≠ a ∧ t ≠ b ∧ a ≠ b := by
  have hsl : sizeLine = 2 ^ 24 := rfl
  have hn := dN_le scr
  unfold fnB
  -- first
  refine TSs_cons (TS_assign (fun env => rfl) (st_of hsc hro rfl) (TE_if (TT_val (fun env whole => rfl) (TE_name (ld_of hsc rfl) hs (TB_list (xs := scr.map .int) (by unfold AHeap.items; rw [hH]; rfl) (by simp; omega) ?_)))))
  have hfirst : ∀ (p1 p2 p3 p4 : Pos) (Q : AV → AHeap → Prop), Q (.int (dFirst scr)) H → (if (!(scr.map AV.int).isEmpty) = true then TE C (.Subscript (.Name "script" p1) (.Constant (.int 0) 0 p2) p3) ρ H Q else TE C (.Constant (.int 0) 0 p4) ρ H Q) := fun p1 p2 p3 p4 Q hq => by
    cases hc : scr with
    | nil =>
      subst hc
      rw [if_neg (by simp)]
      exact TE_int hq
    | cons x xs =>
      rw [hc] at hH hq
      rw [if_pos (by simp)]
      exact TE_idx (fun _ _ => rfl) (TE_name (ld_of hsc rfl) hs (TE_int ⟨sa, _, 0, .int x, rfl, rfl, by unfold AHeap.items; rw [hH]; rfl, by omega, by omega, rfl, hq⟩))
  refine hfirst _ _ _ _ _ ?_
  clear hfirst
  generalize hF : dFirst scr = first
  -- n
  refine TSs_cons (TS_assign (fun env => rfl) (st_of hsc hro rfl) (TE_bin (TE_bin (TE_name (ld_of hsc rfl) (v := .int first) rfl (TE_int (T2_mod (by decide) (TE_int (T2_add ?_))))))))
  have en : first.fmod 3 + 3 = (dN scr : Int) := by rw [dN_eq, hF]
  rw [en]
  -- tables
  refine TSs_cons (TS_assign (fun env => rfl) (st_of hsc hro rfl) (TE_call k (gl_of hsc rfl) fs.list trivial (fun env => ⟨_, _, rfl, rfl⟩) (TEs_cons (fun env => rfl) (TE_call k (gl_of hsc rfl) fs.range trivial (fun env => ⟨_, _, rfl, rfl⟩) (TEs_cons (fun env => rfl) (TE_name (ld_of hsc rfl) (v := .int (dN scr)) rfl (TEs_nil (TC_range fun r1 hr1 => TEs_nil (TC_list_rng (n := dN scr) (AHeap.upd_self _ _ _) (by omega) fun r2 hr2 => ?_)))))))))
  -- turn
  refine TSs_cons (TS_assign (fun env => rfl) (st_of hsc hro rfl) (TE_bin (TE_bin (TE_name (ld_of hsc rfl) (v := .int first) rfl (TE_int (T2_div (by decide) (by decide) (TE_name (ld_of hsc rfl) (v := .int (dN scr)) rfl (T2_mod (by omega) ?_))))))))
  have et : (first.fdiv 3).fmod (dN scr) = (dTurn scr : Int) := by rw [dTurn_eq, hF]
  rw [et]
  have hs1 : sa ≠ r1 := fun e => by rw [← e, hH] at hr1; cases hr1
  have hs2 : sa ≠ r2 := fun e => by rw [← e, AHeap.upd_ne _ _ hs1, hH] at hr2; cases hr2
  -- tables, turned
  refine TSs_cons (TS_assign (fun env => rfl) (st_of hsc hro rfl) (TE_bin (TE_cut (fun _ _ => rfl) (TE_name (ld_of hsc rfl) (v := .ref r2) rfl (TE_name (ld_of hsc rfl) (v := .int (dTurn scr)) rfl ⟨dTurn scr, rfl, r2, _, rfl, by unfold AHeap.items; rw [AHeap.upd_self]; rfl, by simp [upto_length]; omega, fun r3 hr3 => ?_⟩)))))
  have h23 : r2 ≠ r3 := fun e => by rw [← e, AHeap.upd_self] at hr3; cases hr3
  refine TE_cut (fun _ _ => rfl) (TE_name (ld_of hsc rfl) (v := .ref r2) rfl (TE_name (ld_of hsc rfl) (v := .int (dTurn scr)) rfl ⟨dTurn scr, rfl, r2, _, rfl, by unfold AHeap.items; rw [AHeap.upd_ne _ _ h23, AHeap.upd_self]; rfl, by simp [upto_length]; omega, fun r4 hr4 => ?_⟩))
  have h34 : r3 ≠ r4 := fun e => by rw [← e, AHeap.upd_self] at hr4; cases hr4
  refine T2_cat (by unfold AHeap.items; rw [AHeap.upd_ne _ _ h34, AHeap.upd_self]; rfl) (by unfold AHeap.items; rw [AHeap.upd_self]; rfl) (by simp [cut, upto_length]; omega) fun r5 hr5 => ?_
  have e5 : cut ((upto (dN scr)).map AV.int) (some (dTurn scr)) none ++ cut ((upto (dN scr)).map AV.int) none (some (dTurn scr)) = ((upto (dN scr)).drop (dTurn scr) ++ (upto (dN scr)).take (dTurn scr)).map .int := by simp [cut]
  rw [e5]
  have hs3 : sa ≠ r3 := fun e => by rw [← e, AHeap.upd_ne _ _ hs2, AHeap.upd_ne _ _ hs1, hH] at hr3; cases hr3
  have hs4 : sa ≠ r4 := fun e => by rw [← e, AHeap.upd_ne _ _ hs3, AHeap.upd_ne _ _ hs2, AHeap.upd_ne _ _ hs1, hH] at hr4; cases hr4
  have hs5 : sa ≠ r5 := fun e => by rw [← e, AHeap.upd_ne _ _ hs4, AHeap.upd_ne _ _ hs3, AHeap.upd_ne _ _ hs2, AHeap.upd_ne _ _ hs1, hH] at hr5; cases hr5
  -- turned round
  refine TSs_cons (TS.mono (Q := fun f ρ₁ H₁ => f = .next ∧ ρ₁ "n" = some (.int (dN scr)) ∧ ρ₁ "tables" = some (.ref r5) ∧ ρ₁ "script" = some (.ref sa) ∧ H₁ sa = some (.ro (scr.map .int)) ∧ H₁ r5 = some (.list ((dTables scr).map .int))) ?_ fun f ρ₁ H₁ hpost => ?_)
  · refine TS_if (TT_val (fun env whole => rfl) (TE_bin (TE_bin (TE_name (ld_of hsc rfl) (v := .int first) rfl (TE_int (T2_div (by decide) (by decide) (TE_int (T2_mod (by decide) (TB_int ?_)))))))))
    have hsaH : ((((((H.upd r1 (.rng (dN scr))).upd r2 (.list ((upto (dN scr)).map .int))).upd r3 (.list (cut ((upto (dN scr)).map AV.int) (some (dTurn scr)) none))).upd r4 (.list (cut ((upto (dN scr)).map AV.int) none (some (dTurn scr))))).upd r5 (.list (((upto (dN scr)).drop (dTurn scr) ++ (upto (dN scr)).take (dTurn scr)).map .int)))) sa = some (.ro (scr.map .int)) := by
      rw [AHeap.upd_ne _ _ hs5, AHeap.upd_ne _ _ hs4, AHeap.upd_ne _ _ hs3, AHeap.upd_ne _ _ hs2, AHeap.upd_ne _ _ hs1]; exact hH
    by_cases hc : ((first.fdiv 15).fmod 2 != 0) = true
    · rw [if_pos hc]
      refine TSs_cons (TS_expr (fun env => rfl) (TE_meth (fun env => rfl) (fun env => rfl) rfl (fun env => .inl rfl) (TE_name (ld_of hsc rfl) (v := .ref r5) rfl ⟨r5, _, _, rfl, AHeap.upd_self _ _ _, meth_reverse, TEs_nil (TC_reverse (AHeap.upd_self _ _ _) (by simp [upto_length]; omega) ⟨.inl rfl, TSs_nil ⟨rfl, rfl, rfl, hs, ?_, ?_⟩⟩)⟩)))
      · rw [AHeap.upd_ne _ _ hs5]; exact hsaH
      · rw [AHeap.upd_self]
        unfold dTables
        rw [hF, if_pos hc, List.map_reverse]
    · rw [if_neg hc]
      refine TSs_nil ⟨rfl, rfl, rfl, hs, hsaH, ?_⟩
      rw [AHeap.upd_self]
      unfold dTables
      rw [hF, if_neg hc]
  obtain ⟨rfl, hn1, ht1, hs', hsa, hT⟩ := hpost
  clear hr1 hr2 hr3 hr4 hr5 h23 h34 hs1 hs2 hs3 hs4 hs5 e5
  -- fixed, loose
  refine TSs_cons (TS_assignS (xs := ["fixed", "loose"]) (fun env => rfl) (fun env e => by obtain ⟨⟩ := env; cases (show _ = fnS 9 from e.trans hsc); rfl) (fun x hx => ?_) (TE_tuple (TEs_cons (fun env => rfl) (TE_list (TEs_nil ⟨by decide, fun a ha => TEs_cons (fun env => rfl) (TE_list (TEs_nil ⟨by decide, fun b hb => TEs_nil ⟨[.ref a, .ref b], rfl, by show 2 ≤ sizeLine; decide, ⟨_, rfl, rfl, ?_⟩⟩⟩))⟩)))))
  · rcases (by simpa using hx) with rfl | rfl
    · exact st_of hsc hro rfl
    · exact st_of hsc hro rfl
  have hab : a ≠ b := fun e => by rw [← e, AHeap.upd_self] at hb; cases hb
  have hsa_a : sa ≠ a := fun e => by rw [← e, hsa] at ha; cases ha
  have hsa_b : sa ≠ b := fun e => by rw [← e, AHeap.upd_ne _ _ hsa_a, hsa] at hb; cases hb
  have h5a : r5 ≠ a := fun e => by rw [← e, hT] at ha; cases ha
  have h5b : r5 ≠ b := fun e => by rw [← e, AHeap.upd_ne _ _ h5a, hT] at hb; cases hb
  have hcut : (cut (scr.map AV.int) (some 1) (some 8)) = (cut scr (some 1) (some 8)).map .int := by simp [cut]
  have hcl : (cut scr (some 1) (some 8)).length ≤ 7 := by simp [cut]; omega
  refine TSs_cons (TS_for (fun env x => rfl) (TE_cut (fun _ _ => rfl) (TE_name (ld_of hsc rfl) (v := .ref sa) (by exact hs') (TE_int ⟨1, rfl, TE_int ⟨8, rfl, sa, scr.map .int, rfl, by unfold AHeap.items; rw [AHeap.upd_ne _ _ hsa_b, AHeap.upd_ne _ _ hsa_a, hsa]; rfl, by simp; omega, fun r6 hr6 => ?_⟩⟩))))
  have ha6 : a ≠ r6 := fun e => by rw [← e, AHeap.upd_ne _ _ hab, AHeap.upd_self] at hr6; cases hr6
  have hb6 : b ≠ r6 := fun e => by rw [← e, AHeap.upd_self] at hr6; cases hr6
  have h56 : r5 ≠ r6 := fun e => by rw [← e, AHeap.upd_ne _ _ h5b, AHeap.upd_ne _ _ h5a, hT] at hr6; cases hr6
  rw [hcut]
  refine ⟨_, _, (iter_list (xs := (cut scr (some 1) (some 8)).map .int) (by unfold AHeap.items; rw [AHeap.upd_self]; rfl)).some, fun xs hx => ?_⟩
  subst hx
  refine ⟨fun i ρ' H' => ρ' "n" = some (.int (dN scr)) ∧ ρ' "tables" = some (.ref r5) ∧ ρ' "fixed" = some (.ref a) ∧ ρ' "loose" = some (.ref b) ∧ H' r6 = some (.list ((cut scr (some 1) (some 8)).map .int)) ∧ H' r5 = some (.list ((dTables scr).map .int)) ∧
      H' a = some (.list ((((cut scr (some 1) (some 8)).take i).foldl (dStep (dN scr)) ([], [])).1.map .pair)) ∧ H' b = some (.list ((((cut scr (some 1) (some 8)).take i).foldl (dStep (dN scr)) ([], [])).2.map .pair)),
    ⟨hn1, ht1, rfl, rfl, AHeap.upd_self _ _ _, ?_, ?_, ?_⟩, fun i ρ' H' h => by unfold AHeap.items; rw [h.2.2.2.2.1]; rfl, fun i ρ₂ H₂ v hv hI I ob => ?_, fun ρ₂ H₂ hI => ?_⟩
  · rw [AHeap.upd_ne _ _ h56, AHeap.upd_ne _ _ h5b, AHeap.upd_ne _ _ h5a]; exact hT
  · rw [AHeap.upd_ne _ _ ha6, AHeap.upd_ne _ _ hab, AHeap.upd_self]; rfl
  · rw [AHeap.upd_ne _ _ hb6, AHeap.upd_self]; rfl
  · obtain ⟨x, hx, rfl⟩ := item_int hv
    obtain ⟨g1, g2, g3, g4, g5, g6, g7, g8⟩ := hI
    have estep : ((cut scr (some 1) (some 8)).take (i + 1)).foldl (dStep (dN scr)) ([], []) = dStep (dN scr) (((cut scr (some 1) (some 8)).take i).foldl (dStep (dN scr)) ([], [])) x := take_foldl _ _ _ _ _ hx
    have hlens := dFold_length (dN scr) ((cut scr (some 1) (some 8)).take i) ([], [])
    have htl : ((cut scr (some 1) (some 8)).take i).length ≤ 7 := by rw [List.length_take]; omega
    generalize hfl : ((cut scr (some 1) (some 8)).take i).foldl (dStep (dN scr)) ([], []) = fl at g7 g8 estep hlens
    simp only [List.length_nil, Nat.zero_add] at hlens
    have h0 : ((dN scr : Nat) : Int) ≠ 0 := by omega
    refine TA_name (st_of hsc hro rfl) (TSs_cons (TS_assign (fun env => rfl) (st_of hsc hro rfl) (TE_tuple (TEs_cons (fun env => rfl) (TE_bin (TE_bin (TE_name (ld_of hsc rfl) (v := .int x) rfl (TE_int (T2_div (by decide) (by decide) (TE_name (ld_of hsc rfl) (v := .int (dN scr)) g1 (T2_mod h0 ?_)))))))))))
    refine TEs_cons (fun env => rfl) (TE_bin (TE_bin (TE_bin (TE_name (ld_of hsc rfl) (v := .int x) rfl (TE_int (T2_div (by decide) (by decide) (TE_name (ld_of hsc rfl) (v := .int (dN scr)) g1 (T2_div h0 (by omega) (TE_name (ld_of hsc rfl) (v := .int (dN scr)) g1 (T2_mod h0 (TEs_nil ⟨[.int ((x.fdiv 3).fmod (dN scr)), .int (((x.fdiv 3).fdiv (dN scr)).fmod (dN scr))], rfl, by show 2 ≤ sizeLine; decide, ?_⟩)))))))))))
    have ep : AV.tup [.int ((x.fdiv 3).fmod (dN scr)), .int (((x.fdiv 3).fdiv (dN scr)).fmod (dN scr))] = .pair (dPair (dN scr) x) := rfl
    rw [ep]
    have fin1 : ∀ H' : AHeap, H' r6 = some (.list ((cut scr (some 1) (some 8)).map .int)) ∧ H' r5 = some (.list ((dTables scr).map .int)) ∧ H' a = some (.list ((dStep (dN scr) fl x).1.map .pair)) ∧ H' b = some (.list ((dStep (dN scr) fl x).2.map .pair)) →
        (H' r6 = some (.list ((cut scr (some 1) (some 8)).map .int)) ∧ H' r5 = some (.list ((dTables scr).map .int)) ∧ H' a = some (.list ((((cut scr (some 1) (some 8)).take (i + 1)).foldl (dStep (dN scr)) ([], [])).1.map .pair)) ∧ H' b = some (.list ((((cut scr (some 1) (some 8)).take (i + 1)).foldl (dStep (dN scr)) ([], [])).2.map .pair))) := fun H' h => by rw [estep]; exact h
    refine TSs_cons (TS_if (TT_bool (TAll_and (TT_cmp rfl (TE_name (ld_of hsc rfl) (v := .pair (dPair (dN scr) x)) rfl (TE_name (ld_of hsc rfl) (v := .ref a) (by exact g3) (T2_notin keyedPair (f := AV.pair) (ks := fl.1) (by unfold AHeap.items; rw [g7]; rfl) ⟨_, rfl, ?_⟩)))))))
    by_cases c1 : dPair (dN scr) x ∈ fl.1
    · rw [dt _ c1]
      simp only [Bool.not_true, Bool.false_eq_true, if_false]
      have e1 : dStep (dN scr) fl x = fl := by unfold dStep; rw [if_pos (.inl c1)]
      exact TSs_nil (TSs_nil ⟨g1, g2, g3, g4, fin1 _ ⟨g5, g6, by rw [e1]; exact g7, by rw [e1]; exact g8⟩⟩)
    · rw [df _ c1]
      simp only [Bool.not_false, if_true]
      refine TAll_and (TT_cmp rfl (TE_name (ld_of hsc rfl) (v := .pair (dPair (dN scr) x)) rfl (TE_name (ld_of hsc rfl) (v := .ref b) (by exact g4) (T2_notin keyedPair (f := AV.pair) (ks := fl.2) (by unfold AHeap.items; rw [g8]; rfl) ⟨_, rfl, ?_⟩))))
      by_cases c2 : dPair (dN scr) x ∈ fl.2
      · rw [dt _ c2]
        simp only [Bool.not_true, Bool.false_eq_true, if_false]
        have e1 : dStep (dN scr) fl x = fl := by unfold dStep; rw [if_pos (.inr c2)]
        exact TSs_nil (TSs_nil ⟨g1, g2, g3, g4, fin1 _ ⟨g5, g6, by rw [e1]; exact g7, by rw [e1]; exact g8⟩⟩)
      · rw [df _ c2]
        simp only [Bool.not_false, if_true]
        refine TAll_nil ?_
        rw [if_pos (show (BoolOp.And == BoolOp.And) = true from rfl)]
        have l1 : (fl.1.map AV.pair).length ≤ sizeLine := by rw [List.length_map]; omega
        have l2 : (fl.2.map AV.pair).length ≤ sizeLine := by rw [List.length_map]; omega
        have h5r6 : r6 ≠ a := Ne.symm ha6
        have h5r6b : r6 ≠ b := Ne.symm hb6
        have goL : dStep (dN scr) fl x = (fl.1, fl.2 ++ [dPair (dN scr) x]) → (H₂.upd b (.list (fl.2.map AV.pair ++ [.pair (dPair (dN scr) x)]))) r6 = some (.list ((cut scr (some 1) (some 8)).map .int)) ∧ (H₂.upd b (.list (fl.2.map AV.pair ++ [.pair (dPair (dN scr) x)]))) r5 = some (.list ((dTables scr).map .int)) ∧
            (H₂.upd b (.list (fl.2.map AV.pair ++ [.pair (dPair (dN scr) x)]))) a = some (.list ((dStep (dN scr) fl x).1.map .pair)) ∧ (H₂.upd b (.list (fl.2.map AV.pair ++ [.pair (dPair (dN scr) x)]))) b = some (.list ((dStep (dN scr) fl x).2.map .pair)) := fun e => by
          rw [e, AHeap.upd_ne _ _ h5r6b, AHeap.upd_ne _ _ h5b, AHeap.upd_ne _ _ hab, AHeap.upd_self]
          exact ⟨g5, g6, g7, by simp⟩
        have goF : dStep (dN scr) fl x = (fl.1 ++ [dPair (dN scr) x], fl.2) → (H₂.upd a (.list (fl.1.map AV.pair ++ [.pair (dPair (dN scr) x)]))) r6 = some (.list ((cut scr (some 1) (some 8)).map .int)) ∧ (H₂.upd a (.list (fl.1.map AV.pair ++ [.pair (dPair (dN scr) x)]))) r5 = some (.list ((dTables scr).map .int)) ∧
            (H₂.upd a (.list (fl.1.map AV.pair ++ [.pair (dPair (dN scr) x)]))) a = some (.list ((dStep (dN scr) fl x).1.map .pair)) ∧ (H₂.upd a (.list (fl.1.map AV.pair ++ [.pair (dPair (dN scr) x)]))) b = some (.list ((dStep (dN scr) fl x).2.map .pair)) := fun e => by
          rw [e, AHeap.upd_ne _ _ h5r6, AHeap.upd_ne _ _ h5a, AHeap.upd_self, AHeap.upd_ne _ _ (Ne.symm hab)]
          exact ⟨g5, g6, by simp, g8⟩
        refine TSs_cons (TS_if (TT_bool (TAll_and (TT_cmp rfl (TE_bin (TE_name (ld_of hsc rfl) (v := .int x) rfl (TE_int (T2_mod (by decide) (TE_int (T2_eqi ⟨_, rfl, ?_⟩))))))))))
        by_cases c3 : (x.fmod 3 == 0) = true
        · rw [if_pos c3]
          refine TAll_and (TT_cmp rfl (TE_idxT (fun _ _ => rfl) (TE_name (ld_of hsc rfl) (v := .pair (dPair (dN scr) x)) rfl (TE_int ⟨dPair (dN scr) x, rfl, .inl ⟨rfl, TE_idxT (fun _ _ => rfl) (TE_name (ld_of hsc rfl) (v := .pair (dPair (dN scr) x)) rfl (TE_int ⟨dPair (dN scr) x, rfl, .inr ⟨rfl, T2_nei ⟨_, rfl, ?_⟩⟩⟩))⟩⟩))))
          by_cases c4 : ((dPair (dN scr) x).1 != (dPair (dN scr) x).2) = true
          · rw [if_pos c4]
            refine TAll_nil ?_
            rw [if_pos (show (BoolOp.And == BoolOp.And) = true from rfl)]
            have e1 : dStep (dN scr) fl x = (fl.1 ++ [dPair (dN scr) x], fl.2) := by
              unfold dStep
              rw [if_neg (by rintro (h | h); exact c1 h; exact c2 h), if_pos ⟨by simpa using c3, by simpa using c4⟩]
            exact TSs_cons (TS_expr (fun env => rfl) (TE_meth (fun env => rfl) (fun env => rfl) rfl (fun env => .inr ⟨_, _, rfl, rfl⟩) (TE_name (ld_of hsc rfl) (v := .ref a) (by exact g3) ⟨a, _, _, rfl, g7, meth_append, TEs_cons (fun env => rfl) (TE_name (ld_of hsc rfl) (v := .pair (dPair (dN scr) x)) rfl (TEs_nil (TC_append g7 l1 ⟨.inl rfl, TSs_nil (TSs_nil (TSs_nil ⟨g1, g2, g3, g4, fin1 _ (goF e1)⟩))⟩)))⟩)))
          · rw [if_neg c4]
            have e1 : dStep (dN scr) fl x = (fl.1, fl.2 ++ [dPair (dN scr) x]) := by
              unfold dStep
              rw [if_neg (by rintro (h | h); exact c1 h; exact c2 h), if_neg (fun h => c4 (by simpa using h.2))]
            exact TSs_cons (TS_expr (fun env => rfl) (TE_meth (fun env => rfl) (fun env => rfl) rfl (fun env => .inr ⟨_, _, rfl, rfl⟩) (TE_name (ld_of hsc rfl) (v := .ref b) (by exact g4) ⟨b, _, _, rfl, g8, meth_append, TEs_cons (fun env => rfl) (TE_name (ld_of hsc rfl) (v := .pair (dPair (dN scr) x)) rfl (TEs_nil (TC_append g8 l2 ⟨.inl rfl, TSs_nil (TSs_nil (TSs_nil ⟨g1, g2, g3, g4, fin1 _ (goL e1)⟩))⟩)))⟩)))
        · rw [if_neg c3]
          have e1 : dStep (dN scr) fl x = (fl.1, fl.2 ++ [dPair (dN scr) x]) := by
            unfold dStep
            rw [if_neg (by rintro (h | h); exact c1 h; exact c2 h), if_neg (fun h => c3 (by simpa using h.1))]
          exact TSs_cons (TS_expr (fun env => rfl) (TE_meth (fun env => rfl) (fun env => rfl) rfl (fun env => .inr ⟨_, _, rfl, rfl⟩) (TE_name (ld_of hsc rfl) (v := .ref b) (by exact g4) ⟨b, _, _, rfl, g8, meth_append, TEs_cons (fun env => rfl) (TE_name (ld_of hsc rfl) (v := .pair (dPair (dN scr) x)) rfl (TEs_nil (TC_append g8 l2 ⟨.inl rfl, TSs_nil (TSs_nil (TSs_nil ⟨g1, g2, g3, g4, fin1 _ (goL e1)⟩))⟩)))⟩)))
  · obtain ⟨g1, g2, g3, g4, g5, g6, g7, g8⟩ := hI
    simp only [List.length_map, List.take_length] at g7 g8
    exact TSs_nil (TSs_cons (TS_ret (TE_tuple (TEs_cons (fun env => rfl) (TE_name (ld_of hsc rfl) g1 (TEs_cons (fun env => rfl) (TE_name (ld_of hsc rfl) g2 (TEs_cons (fun env => rfl) (TE_name (ld_of hsc rfl) g3 (TEs_cons (fun env => rfl) (TE_name (ld_of hsc rfl) g4 (TEs_nil ⟨[.int (dN scr), .ref r5, .ref a, .ref b], rfl, by show 4 ≤ sizeLine; decide, r5, a, b, rfl, g6, g7, g8, h5a, h5b, hab⟩))))))))))))
end
end Mine
end
section
open PySem PySem.W PyProof.Rows PySem.SeqAt
set_option maxRecDepth 10000
set_option autoImplicit false
set_option linter.unusedVariables false
namespace Mine
/-- what is wanting ahead of x -/
def wants' (ps : List (Int × Int)) (ts made : List Int) (x : Int) : List Int := (ps.filter fun q => q.2 == x && decide (q.1 ∈ ts) && !decide (q.1 ∈ made)).map (·.1)
/-- is laid a right order -/
def laidOk (ps : List (Int × Int)) (ts : List Int) : List Int → List Int → Bool
  | made, [] => true
  | made, x :: r => !decide (x ∈ made) && (wants' ps ts made x).isEmpty && laidOk ps ts (made ++ [x]) r
/-- one of ints, sorted -/
def isSort (l : List Int) : List Int → Prop := fun m => m.Perm l ∧ m.Pairwise (· ≤ ·)
theorem sort_uniq {l m m' : List Int} (h : isSort l m) (h' : isSort l m') : m = m' :=
  (h.1.trans h'.1.symm).eq_of_pairwise (fun a b _ _ h1 h2 => Int.le_antisymm h1 h2) h.2 h'.2
section
variable {C : Cx} {A : Around} {env : Env} {ρ : Loc} {H : AHeap} {s : Shared}
theorem TC_drawn {f : Value} {sa : Addr} {scr : List Int} {Q : AV → AHeap → Prop} (F : FnAt C.gb f 9 ["script"]) (fs : Fns C.G C.gb) (k : C.Ok) (hr : 0 < C.room) (hp : H.items sa = some (scr.map .int)) (hlen : scr.length < 1000)
    (hq : ∀ H' t a b, t ≠ a → t ≠ b → a ≠ b → (∀ x o, H x = some o → H' x = some o) → H' t = some (.list ((dTables scr).map .int)) → H' a = some (.list ((dPairs scr).1.map .pair)) → H' b = some (.list ((dPairs scr).2.map .pair)) → Q (.tup [.int (dN scr), .ref t, .ref a, .ref b]) H') : TC C f [.ref sa] H Q := by
  refine TC_fn F k hr rfl rfl rfl rfl rfl fun C' k' hsc hro hG hgb hrm _ _ => ?_
  refine (drawn_walk (by rw [hG, hgb]; exact fs) k' hsc hro rfl (fz_list hp) hlen).mono fun f ρ' H' ⟨t, a, b, e, h1, h2, h3, n1, n2, n3⟩ => ?_
  rw [e]
  refine ⟨_, [t, a, b], .inl rfl, fun x hx => ?_, fun hn => ?_⟩
  · simp at hx
    rcases hx with rfl | rfl | rfl
    · exact ⟨_, h1, rfl⟩
    · exact ⟨_, h2, rfl⟩
    · exact ⟨_, h3, rfl⟩
  · have at' : ∀ x ∈ [t, a, b], (H.adopt H' [t, a, b]) x = H' x := fun x hx => by unfold AHeap.adopt; rw [if_pos hx]
    exact hq _ t a b n1 n2 n3 (fun x o hx => by
      unfold AHeap.adopt
      rw [if_neg fun q => by rw [hn x q] at hx; cases hx]; exact hx) (by rw [at' t (by simp)]; exact h1) (by rw [at' a (by simp)]; exact h2) (by rw [at' b (by simp)]; exact h3)

def onPair (f : Int × Int → Bool) : AV → Bool
  | .tup [.int a, .int b] => f (a, b)
  | _ => false
def fstOf : AV → AV
  | .tup [.int a, .int b] => .int a
  | v => v
theorem filter_onPair (f : Int × Int → Bool) (l : List (Int × Int)) : (((l.map AV.pair).filter (onPair f)).map fstOf) = ((l.filter f).map (·.1)).map .int := by
  rw [List.filter_map, List.map_map, List.map_map]; rfl
theorem made_walk {la pa ta : Addr} {ps : List (Int × Int)} {ts laid : List Int} (fs : Fns C.G C.gb) (k : C.Ok) (hsc : C.sc = fnS 13) (hro : C.ro = false) (hl : ρ "laid" = some (.ref la)) (hp : ρ "pairs" = some (.ref pa)) (ht : ρ "tables" = some (.ref ta))
    (hL : H la = some (.ro (laid.map .int))) (hP : H pa = some (.ro (ps.map .pair))) (hT : H ta = some (.ro (ts.map .int))) (l1 : laid.length < 64) (l2 : ps.length < 100) (l3 : ts.length < 64) :
    TSs C (fnB 13) ρ H fun f ρ' H' => f = .ret (.bool (laidOk ps ts [] laid && decide (laid.Perm ts))) := by
  have hsl : sizeLine = 2 ^ 24 := rfl
  unfold fnB
  refine TSs_cons (TS_assign (fun env => rfl) (st_of hsc hro rfl) (TE_list (TEs_nil ⟨by decide, fun m hm => ?_⟩)))
  have hlm : la ≠ m := fun e => by rw [← e, hL] at hm; cases hm
  have hpm : pa ≠ m := fun e => by rw [← e, hP] at hm; cases hm
  have htm : ta ≠ m := fun e => by rw [← e, hT] at hm; cases hm
  refine TSs_cons (TS_for (fun env x => rfl) (TE_name (ld_of hsc rfl) (v := .ref la) (by exact hl) ⟨_, _, (iter_list (xs := laid.map .int) (by unfold AHeap.items; rw [AHeap.upd_ne _ _ hlm, hL]; rfl)).some, fun xs hx => ?_⟩))
  subst hx
  refine ⟨fun i ρ' H' => ρ' "pairs" = some (.ref pa) ∧ ρ' "tables" = some (.ref ta) ∧ ρ' "made" = some (.ref m) ∧ H' la = some (.ro (laid.map .int)) ∧ H' pa = some (.ro (ps.map .pair)) ∧ H' ta = some (.ro (ts.map .int)) ∧ H' m = some (.list ((laid.take i).map .int)) ∧ laidOk ps ts [] laid = laidOk ps ts (laid.take i) (laid.drop i),
    ⟨hp, ht, rfl, by rw [AHeap.upd_ne _ _ hlm]; exact hL, by rw [AHeap.upd_ne _ _ hpm]; exact hP, by rw [AHeap.upd_ne _ _ htm]; exact hT, AHeap.upd_self _ _ _, rfl⟩, fun i ρ' H' h => by unfold AHeap.items; rw [h.2.2.2.1]; rfl, fun i ρ₂ H₂ v hv hI I ob => ?_, fun ρ₂ H₂ hI => ?_⟩
  · obtain ⟨x, hx, rfl⟩ := item_int hv
    obtain ⟨g1, g2, g3, g4, g5, g6, g7, g8⟩ := hI
    have hil : i < laid.length := (List.getElem?_eq_some_iff.mp hx).1
    have hdrop : laid.drop i = x :: laid.drop (i + 1) := by
      rw [List.drop_eq_getElem_cons hil]
      rw [List.getElem?_eq_getElem hil] at hx
      rw [Option.some.inj hx]
    have htake : laid.take (i + 1) = laid.take i ++ [x] := by rw [List.take_add_one, hx]; rfl
    rw [hdrop] at g8
    have g8 := g8.trans (show laidOk ps ts (laid.take i) (x :: laid.drop (i + 1)) = (!decide (x ∈ laid.take i) && (wants' ps ts (laid.take i) x).isEmpty && laidOk ps ts (laid.take i ++ [x]) (laid.drop (i + 1))) from rfl)
    refine TA_name (st_of hsc hro rfl) (TSs_cons (TS_if (TT_bool (TAll_or (TT_val (fun env whole => rfl) (TE_call (C := C.hold I ob) (k.hold I ob) (gl_of hsc rfl) fs.isinstance trivial (fun env => ⟨_, _, rfl, rfl⟩) (TEs_cons (fun env => rfl) (TE_name (ld_of hsc rfl) (v := .int x) rfl (TEs_cons (fun env => rfl) (TE_global (C := C.hold I ob) (k.hold I ob) (gl_of hsc rfl) fs.bool (TEs_nil (TC_isbool (TB_bool ?_)))))))))))))
    rw [if_neg (by decide)]
    refine TAll_or (TT_cmp rfl (TE_name (ld_of hsc rfl) (v := .int x) rfl (TE_name (ld_of hsc rfl) (v := .ref m) (by exact g3) (T2_in keyedInt (f := AV.int) (ks := laid.take i) (by unfold AHeap.items; rw [g7]; rfl) ⟨_, rfl, ?_⟩))))
    by_cases c1 : x ∈ laid.take i
    · rw [dt _ c1, if_pos rfl, if_pos rfl]
      refine TSs_cons (TS_ret (TE_bool ?_))
      show AFlow.ret _ = AFlow.ret _
      rw [g8, dt _ c1]; rfl
    · rw [df _ c1, if_neg (by decide)]
      refine TAll_nil ?_
      rw [if_neg (by decide)]
      refine TSs_nil (TSs_cons (TS_if (TT_cmp rfl (TE_listcomp (C := C.hold I ob) (k.hold I ob) (by show compGood C.sc _ = true; rw [hsc]; rfl) rfl (fun env x => rfl) (TE_name (ld_of hsc rfl) (v := .ref pa) (by exact g1) ⟨_, _, (iter_list (xs := ps.map .pair) (by unfold AHeap.items; rw [g5]; rfl)).some, fun xs hx => ?_⟩)))))
      subst hx
      refine ⟨onPair fun q => q.2 == x && decide (q.1 ∈ ts) && !decide (q.1 ∈ laid.take i), fstOf, by simp; omega, fun C' ρ' H' inn hcap hfz a ha => ?_, fun r hr => ?_⟩
      · obtain ⟨q, hq, rfl⟩ := List.mem_map.mp ha
        have c_m : ρ' "made" = some (.ref m) := hcap _ _ rfl (by exact g3)
        have c_t : ρ' "tables" = some (.ref ta) := hcap _ _ rfl (by exact g2)
        have c_x : ρ' "table" = some (.int x) := hcap _ _ rfl rfl
        have h_m : H' m = some (.ro ((laid.take i).map .int)) := hfz m _ (by unfold AHeap.fzAll; rw [g7]; rfl)
        have h_t : H' ta = some (.ro (ts.map .int)) := hfz ta _ (by unfold AHeap.fzAll; rw [g6]; rfl)
        have hsc' : C'.sc = relab _ C.sc := inn.sc
        rw [hsc] at hsc'
        refine TA_tuple (xs := ["p", "c"]) (fun env => .name (.inr ⟨_, rfl⟩) (.name (.inr ⟨_, rfl⟩) .nil)) (fun env => rfl) (fun y hy => ?_) rfl rfl (fun env => rfl) ⟨fun y v h1 h2 => ?_, ?_⟩
        · rcases (by simpa using hy) with rfl | rfl
          · unfold stOk; rw [hsc']; rfl
          · unfold stOk; rw [hsc']; rfl
        · have e1 : y ≠ "p" := by rintro rfl; exact absurd h1 (by decide)
          have e2 : y ≠ "c" := by rintro rfl; exact absurd h1 (by decide)
          show ((ρ'.upd "p" (.int q.1)).upd "c" (.int q.2)) y = _
          rw [Loc.upd_ne _ _ e2, Loc.upd_ne _ _ e1]
          exact hcap y v h1 h2
        · have n_m : (("made" : Str) : Str) ≠ "p" := by decide
          have up : ∀ y : Str, y ≠ "p" → y ≠ "c" → (((ρ'.upd "p" (.int q.1)).upd "c" (.int q.2)) y) = ρ' y := fun y h1 h2 => by rw [Loc.upd_ne _ _ h2, Loc.upd_ne _ _ h1]
          have rp : ((ρ'.upd "p" (.int q.1)).upd "c" (.int q.2)) "p" = some (.int q.1) := by rw [Loc.upd_ne _ _ (by decide)]; exact Loc.upd_self _ _ _
          refine TT_bool (TAll_and (TT_cmp rfl (TE_name (ld_of hsc' rfl) (v := .int q.2) rfl (TE_name (ld_of hsc' rfl) (v := .int x) ((up _ (by decide) (by decide)).trans c_x) (T2_eqi ⟨_, rfl, ?_⟩)))))
          by_cases c3 : q.2 = x
          · rw [show (q.2 == x) = true from by rw [c3]; exact beq_self_eq_true x, if_pos rfl]
            refine TAll_and (TT_cmp rfl (TE_name (ld_of hsc' rfl) (v := .int q.1) rp (TE_name (ld_of hsc' rfl) (v := .ref ta) ((up _ (by decide) (by decide)).trans c_t) (T2_in keyedInt (f := AV.int) (ks := ts) (by unfold AHeap.items; rw [h_t]; rfl) ⟨_, rfl, ?_⟩))))
            by_cases c4 : q.1 ∈ ts
            · rw [dt _ c4, if_pos rfl]
              refine TAll_and (TT_cmp rfl (TE_name (ld_of hsc' rfl) (v := .int q.1) rp (TE_name (ld_of hsc' rfl) (v := .ref m) ((up _ (by decide) (by decide)).trans c_m) (T2_notin keyedInt (f := AV.int) (ks := laid.take i) (by unfold AHeap.items; rw [h_m]; rfl) ⟨_, rfl, ?_⟩))))
              by_cases c5 : q.1 ∈ laid.take i
              · rw [dt _ c5, if_neg (by decide)]
                exact ⟨by show false = (q.2 == x && decide (q.1 ∈ ts) && !decide (q.1 ∈ laid.take i)); rw [dt _ c5]; simp, rfl, fun h => by cases h⟩
              · rw [df _ c5, if_pos (by decide)]
                exact TAll_nil ⟨by show true = (q.2 == x && decide (q.1 ∈ ts) && !decide (q.1 ∈ laid.take i)); rw [df _ c5, dt _ c4, c3]; simp, rfl, fun _ => TE_name (ld_of hsc' rfl) (v := .int q.1) rp ⟨rfl, rfl⟩⟩
            · rw [df _ c4, if_neg (by decide)]
              exact ⟨by show false = (q.2 == x && decide (q.1 ∈ ts) && !decide (q.1 ∈ laid.take i)); rw [df _ c4]; simp, rfl, fun h => by cases h⟩
          · rw [show (q.2 == x) = false from beq_eq_false_iff_ne.mpr c3, if_neg (by decide)]
            exact ⟨by show false = (q.2 == x && decide (q.1 ∈ ts) && !decide (q.1 ∈ laid.take i)); rw [show (q.2 == x) = false from beq_eq_false_iff_ne.mpr c3]; rfl, rfl, fun h => by cases h⟩
      · rw [filter_onPair]
        have hmr : m ≠ r := fun e => by rw [← e, g7] at hr; cases hr
        have hlr : la ≠ r := fun e => by rw [← e, g4] at hr; cases hr
        have hpr : pa ≠ r := fun e => by rw [← e, g5] at hr; cases hr
        have htr : ta ≠ r := fun e => by rw [← e, g6] at hr; cases hr
        refine TE_list (TEs_nil ⟨by decide, fun r2 hr2 => ?_⟩)
        have hrr : r ≠ r2 := fun e => by rw [← e, AHeap.upd_self] at hr2; cases hr2
        have hmr2 : m ≠ r2 := fun e => by rw [← e, AHeap.upd_ne _ _ hmr, g7] at hr2; cases hr2
        have hlr2 : la ≠ r2 := fun e => by rw [← e, AHeap.upd_ne _ _ hlr, g4] at hr2; cases hr2
        have hpr2 : pa ≠ r2 := fun e => by rw [← e, AHeap.upd_ne _ _ hpr, g5] at hr2; cases hr2
        have htr2 : ta ≠ r2 := fun e => by rw [← e, AHeap.upd_ne _ _ htr, g6] at hr2; cases hr2
        refine T2_nel keyedInt (f := AV.int) (xs := wants' ps ts (laid.take i) x) (ys := []) (by unfold AHeap.items; rw [AHeap.upd_ne _ _ hrr, AHeap.upd_self]; rfl) (by unfold AHeap.items; rw [AHeap.upd_self]; rfl) ⟨_, rfl, ?_⟩
        by_cases c6 : wants' ps ts (laid.take i) x = []
        · rw [dt _ c6, if_neg (by decide)]
          refine TSs_nil (TSs_cons (TS_expr (fun env => rfl) (TE_meth (fun env => rfl) (fun env => rfl) rfl (fun env => .inr ⟨_, _, rfl, rfl⟩) (TE_name (ld_of hsc rfl) (v := .ref m) (by exact g3) ⟨m, .list ((laid.take i).map .int), _, rfl, by rw [AHeap.upd_ne _ _ hmr2, AHeap.upd_ne _ _ hmr]; exact g7, meth_append, TEs_cons (fun env => rfl) (TE_name (ld_of hsc rfl) (v := .int x) rfl (TEs_nil (TC_append (by rw [AHeap.upd_ne _ _ hmr2, AHeap.upd_ne _ _ hmr]; exact g7) (by simp; omega) ?_)))⟩))))
          have hw : (wants' ps ts (laid.take i) x).isEmpty = true := by rw [c6]; rfl
          refine ⟨.inl rfl, TSs_nil ⟨g1, g2, g3, ?_, ?_, ?_, ?_, ?_⟩⟩
          · rw [AHeap.upd_ne _ _ hlm, AHeap.upd_ne _ _ hlr2, AHeap.upd_ne _ _ hlr]; exact g4
          · rw [AHeap.upd_ne _ _ hpm, AHeap.upd_ne _ _ hpr2, AHeap.upd_ne _ _ hpr]; exact g5
          · rw [AHeap.upd_ne _ _ htm, AHeap.upd_ne _ _ htr2, AHeap.upd_ne _ _ htr]; exact g6
          · rw [AHeap.upd_self, htake, List.map_append]; rfl
          · rw [g8, hw, df _ c1, htake]; rfl
        · rw [df _ c6, if_pos (by decide)]
          refine TSs_cons (TS_ret (TE_bool ?_))
          show AFlow.ret _ = AFlow.ret _
          have : (wants' ps ts (laid.take i) x).isEmpty = false := by
            cases hw : wants' ps ts (laid.take i) x with
            | nil => exact absurd hw c6
            | cons _ _ => rfl
          rw [g8, this, df _ c1]; rfl
  · obtain ⟨g1, g2, g3, g4, g5, g6, g7, g8⟩ := hI
    have g4' : H₂ la = some (.ro (laid.map .int)) := g4
    simp only [List.length_map] at g7 g8
    rw [List.take_length] at g7 g8
    rw [List.drop_length] at g8
    refine TSs_nil (TSs_cons (TS_ret ?_))
    refine (TE_cmp rfl (TE_call k (gl_of hsc rfl) fs.sorted trivial (fun env => ⟨_, _, rfl, rfl⟩) (TEs_cons (fun env => rfl) (TE_name (ld_of hsc rfl) (v := .ref m) (by exact g3) (TEs_nil ?_)))))
    refine TC_sorted (a := m) (ns := laid) (by unfold AHeap.items; rw [g7]; rfl) l1 fun r1 m1 hr1 p1 o1 => ?_
    have htr : ta ≠ r1 := fun e => by rw [← e, g6] at hr1; cases hr1
    refine TE_call k (gl_of hsc rfl) fs.sorted trivial (fun env => ⟨_, _, rfl, rfl⟩) (TEs_cons (fun env => rfl) (TE_name (ld_of hsc rfl) (v := .ref ta) (by exact g2) (TEs_nil (TC_sorted (ns := ts) (by unfold AHeap.items; rw [AHeap.upd_ne _ _ htr, g6]; rfl) l3 fun r2 m2 hr2 p2 o2 => ?_))))
    have hrr : r1 ≠ r2 := fun e => by rw [← e, AHeap.upd_self] at hr2; cases hr2
    refine T2_eql keyedInt (f := AV.int) (xs := m1) (ys := m2) (by unfold AHeap.items; rw [AHeap.upd_ne _ _ hrr, AHeap.upd_self]; rfl) (by unfold AHeap.items; rw [AHeap.upd_self]; rfl) ?_
    show AFlow.ret _ = AFlow.ret _
    rw [g8]
    have e1 : laidOk ps ts laid [] = true := by cases laid <;> rfl
    rw [e1, Bool.true_and]
    by_cases c7 : laid.Perm ts
    · rw [dt _ c7, dt _ (sort_uniq ⟨p1.trans c7, o1⟩ ⟨p2, o2⟩)]
    · rw [df _ c7, df _ (show ¬ m1 = m2 from fun e => c7 ((show laid.Perm m2 from e ▸ p1.symm).trans p2))]
theorem TC_made {f : Value} {la pa ta : Addr} {ps : List (Int × Int)} {ts laid : List Int} {Q : AV → AHeap → Prop} (F : FnAt C.gb f 13 ["laid", "pairs", "tables"]) (fs : Fns C.G C.gb) (k : C.Ok) (hr : 0 < C.room)
    (hL : H.items la = some (laid.map .int)) (hP : H.items pa = some (ps.map .pair)) (hT : H.items ta = some (ts.map .int)) (l1 : laid.length < 64) (l2 : ps.length < 100) (l3 : ts.length < 64)
    (hq : Q (.bool (laidOk ps ts [] laid && decide (laid.Perm ts))) H) : TC C f [.ref la, .ref pa, .ref ta] H Q := by
  refine TC_fn F k hr rfl rfl rfl rfl rfl fun C' k' hsc hro hG hgb hrm _ _ => ?_
  refine (made_walk (by rw [hG, hgb]; exact fs) k' hsc hro rfl rfl rfl (fz_list hL) (fz_list hP) (fz_list hT) l1 l2 l3).mono fun f ρ' H' e => ?_
  rw [e]
  exact ⟨_, [], .inl rfl, fun x hx => (by cases hx), fun hn => by rw [adopt_nil]; exact hq⟩
end
end Mine
end
section
open PySem PySem.W PyProof.Rows PySem.SeqAt
set_option maxRecDepth 10000
set_option autoImplicit false
set_option linter.unusedVariables false
namespace Mine
/-- a defaultdict of sets of the call's own: at key k the set f k -/
structure DDOk (H : AHeap) (E : Addr) (es : List (Int × Addr)) (f : Int → List Int) : Prop where
  at_ : H E = some (.dd es)
  keysN : (es.map (·.1)).Nodup
  addrN : (es.map (·.2)).Nodup
  sets : ∀ p ∈ es, H p.2 = some (.iset (f p.1))
  off : ∀ x, x ∉ es.map (·.1) → f x = []
/-- the same, held still -/
structure DDFz (H : AHeap) (E : Addr) (es : List (Int × Addr)) (f : Int → List Int) : Prop where
  at_ : H E = some (.rdd es)
  keysN : (es.map (·.1)).Nodup
  sets : ∀ p ∈ es, H p.2 = some (.rset (f p.1))
  off : ∀ x, x ∉ es.map (·.1) → f x = []
theorem lookup_mem' {k : Int} {b : Addr} : ∀ {l : List (Int × Addr)}, l.lookup k = some b → (k, b) ∈ l
  | [], h => by simp at h
  | q :: qs, h => by
    rw [List.lookup_cons] at h
    by_cases e : k = q.1
    · rw [show (k == q.1) = true by simpa using e] at h
      cases h; subst e; exact List.mem_cons_self
    · rw [show (k == q.1) = false by simpa using e] at h
      exact List.mem_cons_of_mem _ (lookup_mem' h)
theorem lookup_none_iff {k : Int} {l : List (Int × Addr)} : l.lookup k = none ↔ k ∉ l.map (·.1) := by
  constructor
  · intro h q
    obtain ⟨b, e⟩ := lookup_of_mem q
    rw [h] at e; cases e
  · intro h
    cases e : l.lookup k with
    | none => rfl
    | some b => exact absurd (List.mem_map.mpr ⟨_, lookup_mem' e, rfl⟩) h
theorem DDOk.fz {H : AHeap} {E : Addr} {es : List (Int × Addr)} {f : Int → List Int} (d : DDOk H E es f) : DDFz (H.fz (E :: es.map (·.2))) E es f where
  at_ := by unfold AHeap.fz; rw [if_pos List.mem_cons_self, d.at_]; rfl
  keysN := d.keysN
  sets := fun p hp => by unfold AHeap.fz; rw [if_pos (List.mem_cons_of_mem _ (List.mem_map_of_mem hp)), d.sets p hp]; rfl
  off := d.off
theorem DDOk.held {H : AHeap} {E : Addr} {es : List (Int × Addr)} {f : Int → List Int} (d : DDOk H E es f) : ∀ b ∈ E :: es.map (·.2), ∃ o, H b = some o := fun b hb => by
  rcases List.mem_cons.mp hb with rfl | hb
  · exact ⟨_, d.at_⟩
  · obtain ⟨p, hp, rfl⟩ := List.mem_map.mp hb; exact ⟨_, d.sets p hp⟩
theorem DDOk.ne {H : AHeap} {E : Addr} {es : List (Int × Addr)} {f : Int → List Int} (d : DDOk H E es f) {p : Int × Addr} (hp : p ∈ es) : p.2 ≠ E := fun e => by
  have := d.sets p hp; rw [e, d.at_] at this; cases this
theorem DDOk.nil {H : AHeap} {E : Addr} : DDOk (H.upd E (.dd [])) E [] (fun _ => []) := ⟨AHeap.upd_self _ _ _, .nil, .nil, (fun p hp => nomatch hp), fun _ _ => rfl⟩
theorem DDOk.miss {H : AHeap} {E r : Addr} {es : List (Int × Addr)} {f : Int → List Int} {x : Int} (d : DDOk H E es f) (hr : H r = none) (hx : es.lookup x = none) : DDOk ((H.upd r (.iset [])).upd E (.dd (es ++ [(x, r)]))) E (es ++ [(x, r)]) f where
  at_ := AHeap.upd_self _ _ _
  keysN := nodup_push d.keysN hx
  addrN := by
    rw [List.map_append, List.nodup_append]
    refine ⟨d.addrN, by simp, fun a ha b hb e => ?_⟩
    simp at hb; subst hb; subst e
    obtain ⟨p, hp, e⟩ := List.mem_map.mp ha
    have := d.sets p hp; rw [e, hr] at this; cases this
  sets := fun p hp => by
    have hrE : r ≠ E := fun e => by rw [e, d.at_] at hr; cases hr
    rcases List.mem_append.mp hp with hp | hp
    · have hpr : p.2 ≠ r := fun e => by have := d.sets p hp; rw [e, hr] at this; cases this
      rw [AHeap.upd_ne _ _ (d.ne hp), AHeap.upd_ne _ _ hpr]; exact d.sets p hp
    · simp at hp; subst hp
      show ((H.upd r (.iset [])).upd E (.dd (es ++ [(x, r)]))) r = some (.iset (f x))
      rw [AHeap.upd_ne _ _ hrE, AHeap.upd_self, d.off x (lookup_none_iff.mp hx)]
  off := fun y hy => d.off y fun q => hy (by rw [List.map_append]; exact List.mem_append.mpr (.inl q))
theorem DDOk.put {H : AHeap} {E b : Addr} {es : List (Int × Addr)} {f : Int → List Int} {x : Int} {S : List Int} (d : DDOk H E es f) (hb : (x, b) ∈ es) : DDOk (H.upd b (.iset S)) E es (fun y => if y = x then S else f y) where
  at_ := by rw [AHeap.upd_ne _ _ (Ne.symm (d.ne hb))]; exact d.at_
  keysN := d.keysN
  addrN := d.addrN
  sets := fun p hp => by
    by_cases e : p.2 = b
    · have : p = (x, b) := by
        have h1 := d.addrN
        rw [List.nodup_iff_pairwise_ne] at h1
        rw [List.pairwise_map] at h1
        exact Classical.byContradiction fun hne => by
          obtain ⟨i, hi, ei⟩ := List.getElem_of_mem hp
          obtain ⟨j, hj, ej⟩ := List.getElem_of_mem hb
          rcases Nat.lt_trichotomy i j with q | q | q
          · exact List.pairwise_iff_getElem.mp h1 i j hi hj q (by rw [ei, ej]; exact e)
          · subst q; exact hne (ei.symm.trans ej)
          · exact List.pairwise_iff_getElem.mp h1 j i hj hi q (by rw [ei, ej]; exact e.symm)
      subst this
      rw [AHeap.upd_self, if_pos rfl]
    · have : p.1 ≠ x := fun q => e (by
        have h1 := d.keysN
        rw [List.nodup_iff_pairwise_ne] at h1
        rw [List.pairwise_map] at h1
        obtain ⟨i, hi, ei⟩ := List.getElem_of_mem hp
        obtain ⟨j, hj, ej⟩ := List.getElem_of_mem hb
        rcases Nat.lt_trichotomy i j with w | w | w
        · exact absurd (by rw [ei, ej]; exact q) (List.pairwise_iff_getElem.mp h1 i j hi hj w)
        · subst w; rw [← ei, ej]
        · exact absurd (by rw [ei, ej]; exact q.symm) (List.pairwise_iff_getElem.mp h1 j i hj hi w))
      rw [AHeap.upd_ne _ _ e, if_neg this]; exact d.sets p hp
  off := fun y hy => by
    rw [if_neg fun q => hy (by rw [q]; exact List.mem_map.mpr ⟨_, hb, rfl⟩)]
    exact d.off y hy
section
variable {C : Cx} {A : Around} {env : Env} {ρ : Loc} {H : AHeap} {s : Shared}
/-- edges[x] -/
theorem T2_dd {E : Addr} {es : List (Int × Addr)} {f : Int → List Int} {x : Int} {Q : AV → AHeap → Prop} (d : DDOk H E es f) (hsz : es.length < 1000)
    (h : ∀ b es' H', DDOk H' E es' f → (x, b) ∈ es' → (es' = es ∨ (x ∉ es.map (·.1) ∧ es' = es ++ [(x, b)])) → (∀ a, a ≠ E → H a ≠ none → H' a = H a) → Q (.ref b) H') : T2 C getItem (.ref E) (.int x) H Q := by
  cases e : es.lookup x with
  | some b => exact T2_ddget (by unfold AHeap.ents; rw [d.at_]; rfl) e (h b es H d (lookup_mem' e) (.inl rfl) fun a _ _ => rfl)
  | none =>
    refine T2_ddmiss d.at_ e hsz fun r hr => ?_
    refine h r _ _ (d.miss hr e) (by simp) (.inr ⟨lookup_none_iff.mp e, rfl⟩) fun a ha hn => ?_
    rw [AHeap.upd_ne _ _ ha, AHeap.upd_ne _ _ fun q => hn (by rw [q]; exact hr)]
end
end Mine
end
section
open PySem PySem.W PyProof.Rows PySem.SeqAt
set_option maxRecDepth 10000
set_option autoImplicit false
set_option linter.unusedVariables false
namespace Mine
/-- a tree of questions, answered -/
def run {α : Type} (o : Nat → Nat → Bool) : KasT α → α
  | .ret a => a
  | .ask i j k => run o (k (o i j))
theorem run_wp {α : Type} {cmp : Nat → Nat → (Bool → Shared → Prop) → Shared → Prop} {o : Nat → Nat → Bool} {s : Shared} (h : ∀ i j (C : Bool → Shared → Prop), C (o i j) s → cmp i j C s) : ∀ (t : KasT α) (Q : α → Shared → Prop), Q (run o t) s → t.kasWp cmp Q s
  | .ret a, Q, hq => hq
  | .ask i j k, Q, hq => h i j _ (run_wp h (k (o i j)) Q hq)
theorem run_bind {α β : Type} (o : Nat → Nat → Bool) (f : α → KasT β) : ∀ t : KasT α, run o (t.bind f) = run o (f (run o t))
  | .ret a => rfl
  | .ask i j k => run_bind o f (k (o i j))
section
variable (r : Nat → Int)
def ord (i j : Nat) : Bool := decide (r i < r j)
def ky (p : Array Nat) (i : Nat) : Int := r (p.getD i 0)
def Srt (p : Array Nat) (m : Nat) : Prop := ∀ j, 1 ≤ j → j < m → ky r p (j - 1) ≤ ky r p j
variable {r}
theorem Srt.all {p : Array Nat} {m : Nat} (h : Srt r p m) : ∀ j i, i ≤ j → j < m → ky r p i ≤ ky r p j
  | 0, i, h1, _ => by obtain rfl : i = 0 := by omega
                      exact Int.le_refl _
  | j + 1, i, h1, h2 => by
    by_cases q : i = j + 1
    · subst q; exact Int.le_refl _
    · exact Int.le_trans (h.all j i (by omega) (by omega)) (h (j + 1) (by omega) h2)
theorem asc_ok (p : Array Nat) : ∀ f n, n ≤ run (ord r) (kas_asc p f n) ∧ run (ord r) (kas_asc p f n) ≤ n + f ∧ (∀ j, n ≤ j → j < run (ord r) (kas_asc p f n) → ky r p (j - 1) ≤ ky r p j) ∧
    (run (ord r) (kas_asc p f n) < n + f → ky r p (run (ord r) (kas_asc p f n)) < ky r p (run (ord r) (kas_asc p f n) - 1))
  | 0, n => ⟨Nat.le_refl _, Nat.le_refl _, fun j h1 h2 => absurd h2 (Nat.not_lt.mpr h1), fun h => absurd h (Nat.lt_irrefl _)⟩
  | f + 1, n => by
    unfold kas_asc run
    by_cases q : ky r p n < ky r p (n - 1)
    · have e : ord r (p.getD n 0) (p.getD (n - 1) 0) = true := decide_eq_true q
      rw [e]
      exact ⟨Nat.le_refl _, Nat.le_add_right _ _, fun j h1 h2 => absurd h2 (Nat.not_lt.mpr h1), fun _ => q⟩
    · have e : ord r (p.getD n 0) (p.getD (n - 1) 0) = false := decide_eq_false q
      rw [e]
      simp only [Bool.false_eq_true, if_false]
      obtain ⟨h1, h2, h3, h4⟩ := asc_ok p f (n + 1)
      refine ⟨by omega, by omega, fun j a b => ?_, fun a => h4 (by omega)⟩
      by_cases g : j = n
      · subst g; omega
      · exact h3 j (by omega) b
theorem desc_ok (p : Array Nat) : ∀ f n, (∀ j, n ≤ j → j < n + f → ky r p j ≠ ky r p (j - 1)) →
    (run (ord r) (kas_desc f p n 0)).1 = p ∧ (run (ord r) (kas_desc f p n 0)).2.2 = 0 ∧ n ≤ (run (ord r) (kas_desc f p n 0)).2.1 ∧ (run (ord r) (kas_desc f p n 0)).2.1 ≤ n + f ∧ ∀ j, n ≤ j → j < (run (ord r) (kas_desc f p n 0)).2.1 → ky r p j < ky r p (j - 1)
  | 0, n, _ => ⟨rfl, rfl, Nat.le_refl _, Nat.le_refl _, fun j h1 h2 => absurd h2 (Nat.not_lt.mpr h1)⟩
  | f + 1, n, hd => by
    unfold kas_desc run
    by_cases q : ky r p n < ky r p (n - 1)
    · have e : ord r (p.getD n 0) (p.getD (n - 1) 0) = true := decide_eq_true q
      rw [e]
      simp only [if_true, Nat.lt_irrefl, if_false, gt_iff_lt]
      obtain ⟨h1, h2, h3, h4, h5⟩ := desc_ok p f (n + 1) fun j a b => hd j (by omega) (by omega)
      refine ⟨h1, h2, by omega, by omega, fun j a b => ?_⟩
      by_cases g : j = n
      · subst g; exact q
      · exact h5 j (by omega) b
    · have e : ord r (p.getD n 0) (p.getD (n - 1) 0) = false := decide_eq_false q
      have q2 : ky r p (n - 1) < ky r p n := by have := hd n (Nat.le_refl _) (by omega); omega
      have e2 : ord r (p.getD (n - 1) 0) (p.getD n 0) = true := decide_eq_true q2
      rw [e]
      simp only [Bool.false_eq_true, if_false]
      unfold run
      rw [e2]
      simp only [if_true]
      exact ⟨rfl, rfl, Nat.le_refl _, by show n ≤ n + (f + 1); omega, fun j h1 h2 => absurd h2 (Nat.not_lt.mpr h1)⟩
theorem ky_congr {p q : Array Nat} {i j : Nat} (h : p[i]? = q[j]?) : ky r p i = ky r q j := by
  unfold ky
  rw [Array.getD_eq_getD_getElem?, Array.getD_eq_getD_getElem?, h]
theorem ky_rev {p : Array Nat} {m : Nat} (hm : m ≤ p.size) (k : Nat) : ky r (kas_rev p 0 m) k = if k < m then ky r p (m - 1 - k) else ky r p k := by
  have e := getElem?_mirror_all (xs := p) (i := 0) hm k
  have e' : kas_rev p 0 m = mirror p 0 m ((m - 0) / 2) := rfl
  rw [e']
  by_cases h1 : k < m
  · rw [if_pos ⟨Nat.zero_le _, h1⟩] at e
    rw [if_pos h1]
    have : 0 + m - 1 - k = m - 1 - k := by omega
    rw [this] at e
    exact ky_congr e
  · rw [if_neg (fun q => h1 q.2)] at e
    rw [if_neg h1]
    exact ky_congr e
theorem ky_bubble {p : Array Nat} {src d : Nat} (hs : src < p.size) (hd : d ≤ src) (k : Nat) :
    ky r (bubble p src d) k = if k = src - d then ky r p src else if src - d < k ∧ k ≤ src then ky r p (k - 1) else ky r p k := by
  have e := getElem?_bubble hs d hd k
  by_cases h1 : k = src - d
  · rw [if_pos h1] at e ⊢; exact ky_congr e
  · rw [if_neg h1] at e ⊢
    by_cases h2 : src - d < k ∧ k ≤ src
    · rw [if_pos h2] at e ⊢; exact ky_congr e
    · rw [if_neg h2] at e ⊢; exact ky_congr e
theorem place_ok (p : Array Nat) (k : Nat) (hs : Srt r p k) : ∀ f l u, l ≤ u → u ≤ k → u - l ≤ f → (∀ i, i < l → ky r p i ≤ ky r p k) → (∀ i, u ≤ i → i < k → ky r p k ≤ ky r p i) →
    run (ord r) (kas_place p k f l u) ≤ k ∧ (∀ i, i < run (ord r) (kas_place p k f l u) → ky r p i ≤ ky r p k) ∧ (∀ i, run (ord r) (kas_place p k f l u) ≤ i → i < k → ky r p k ≤ ky r p i)
  | 0, l, u, h1, h2, h3, h4, h5 => by
    obtain rfl : l = u := by omega
    exact ⟨h2, h4, h5⟩
  | f + 1, l, u, h1, h2, h3, h4, h5 => by
    unfold kas_place
    by_cases q : l ≥ u
    · rw [if_pos q]
      obtain rfl : l = u := by omega
      exact ⟨h2, h4, h5⟩
    · rw [if_neg q]
      unfold run
      by_cases g : ky r p k < ky r p ((l + u) / 2)
      · have e : ord r (p.getD k 0) (p.getD ((l + u) / 2) 0) = true := decide_eq_true g
        rw [e]
        exact place_ok p k hs f l ((l + u) / 2) (by omega) (by omega) (by omega) h4 fun i a b => by
          have := hs.all i ((l + u) / 2) a b; omega
      · have e : ord r (p.getD k 0) (p.getD ((l + u) / 2) 0) = false := decide_eq_false g
        rw [e]
        exact place_ok p k hs f ((l + u) / 2 + 1) u (by omega) h2 (by omega) (fun i a => by
          have := hs.all ((l + u) / 2) i (by omega) (by omega); omega) h5
theorem bin_ok : ∀ f (p : Array Nat) k, k + f = p.size → Srt r p k → Srt r (run (ord r) (kas_bin f p k)) p.size ∧ (run (ord r) (kas_bin f p k)).Perm p
  | 0, p, k, h1, h2 => by
    unfold kas_bin run
    exact ⟨by rw [← h1]; exact h2, Array.Perm.refl _⟩
  | f + 1, p, k, h1, h2 => by
    unfold kas_bin
    rw [run_bind]
    obtain ⟨a, b, c⟩ := place_ok p k h2 k 0 k (Nat.zero_le _) (Nat.le_refl _) (by omega) (fun i hi => absurd hi (Nat.not_lt_zero _)) (fun i x y => absurd x (by omega))
    generalize run (ord r) (kas_place p k k 0 k) = l at a b c ⊢
    have hk : k < p.size := by omega
    have hsz : (bubble p k (k - l)).size = p.size := bubble_size _ _ _
    have hsorted : Srt r (bubble p k (k - l)) (k + 1) := fun j j1 j2 => by
      rw [ky_bubble hk (by omega), ky_bubble hk (by omega)]
      have e : k - (k - l) = l := by omega
      rw [e]
      by_cases q1 : j = l
      · subst q1
        rw [if_neg (by omega), if_neg (by omega), if_pos rfl]
        exact b (j - 1) (by omega)
      · rw [if_neg q1]
        by_cases q2 : j - 1 = l
        · rw [if_pos q2, if_pos (by omega), q2]
          exact c l (Nat.le_refl _) (by omega)
        · rw [if_neg q2]
          by_cases q3 : l < j
          · rw [if_pos (by omega), if_pos (by omega)]
            exact h2 (j - 1) (by omega) (by omega)
          · rw [if_neg (by omega), if_neg (by omega)]
            exact h2 j j1 (by omega)
    obtain ⟨x, y⟩ := bin_ok f (bubble p k (k - l)) (k + 1) (by omega) hsorted
    rw [hsz] at x
    exact ⟨x, y.trans (bubble_perm _ _ _)⟩
theorem sort_ok {n : Nat} (h2 : 2 ≤ n) (hinj : ∀ i j, i < n → j < n → r i = r j → i = j) : Srt r (run (ord r) (kas_sort n)) n ∧ (run (ord r) (kas_sort n)).Perm (List.toArray (List.range n)) := by
  have hd : ∀ j, 1 ≤ j → j < n → ky r (List.range n).toArray j ≠ ky r (List.range n).toArray (j - 1) := fun j h1 h3 e => by
    have g : ∀ i, i < n → ky r (List.range n).toArray i = r i := fun i hi => by
      unfold ky; rw [Array.getD_eq_getD_getElem?, List.getElem?_toArray, List.getElem?_range hi]; rfl
    rw [g j h3, g (j - 1) (by omega)] at e
    have := hinj _ _ h3 (by omega) e
    omega
  have hsz : (List.range n).toArray.size = n := by simp
  unfold kas_sort
  rw [run_bind]
  have key : ∃ m p, run (ord r) (kas_count n (List.range n).toArray) = (m, p) ∧ 1 ≤ m ∧ m ≤ n ∧ Srt r p m ∧ p.Perm (List.range n).toArray ∧ p.size = n := by
    generalize (List.range n).toArray = p at hd hsz
    unfold kas_count
    rw [run_bind]
    obtain ⟨a1, a2, a3, a4⟩ := asc_ok (r := r) p (n - 1) 1
    generalize run (ord r) (kas_asc p (n - 1) 1) = m at a1 a2 a3 a4 ⊢
    by_cases q : m = n
    · subst q
      simp only [beq_self_eq_true, if_true]
      exact ⟨m, p, rfl, a1, Nat.le_refl _, a3, Array.Perm.refl _, hsz⟩
    · have hq : (m == n) = false := by simpa using q
      rw [hq]
      simp only [Bool.false_eq_true, if_false]
      by_cases q1 : m > 1
      · rw [if_pos q1]
        unfold run
        have h0 : ky r p 0 < ky r p (m - 1) := by
          have s1 : Srt r p m := a3
          have x1 := s1 1 (by omega) (by omega)
          have x2 := hd 1 (by omega) (by omega)
          have x3 := s1.all (m - 1) 1 (by omega) (by omega)
          simp only [Nat.sub_self] at x1 x2
          omega
        have e : ord r (p.getD 0 0) (p.getD (m - 1) 0) = true := decide_eq_true h0
        rw [e]
        exact ⟨m, p, rfl, a1, by omega, a3, Array.Perm.refl _, hsz⟩
      · rw [if_neg q1]
        obtain rfl : m = 1 := by omega
        unfold kas_descPart
        rw [run_bind]
        obtain ⟨b1, b2, b3, b4, b5⟩ := desc_ok (r := r) p (n - (1 + 1)) (1 + 1) fun j h1 h3 => hd j (by omega) (by omega)
        generalize run (ord r) (kas_desc (n - (1 + 1)) p (1 + 1) 0) = x at b1 b2 b3 b4 b5 ⊢
        obtain ⟨p', m, q'⟩ := x
        dsimp only at b1 b2 b3 b4 b5 ⊢
        subst b1; subst b2
        simp only [gt_iff_lt, Nat.lt_irrefl, if_false]
        unfold kas_tail3
        rw [run_bind]
        obtain ⟨c1, c2, c3, c4⟩ := asc_ok (r := r) (kas_rev p' 0 m) (n - m) m
        refine ⟨_, _, rfl, by omega, by omega, ?_, mirror_perm _ _ _ _, (kas_rev_size _ _).trans hsz⟩
        intro j j1 j2
        by_cases g : m ≤ j
        · exact c3 j g j2
        · rw [ky_rev (by omega), ky_rev (by omega), if_pos (by omega), if_pos (by omega)]
          have a5 := a4 (by omega)
          have e1 : m - 1 - (j - 1) = (m - 1 - j) + 1 := by omega
          rw [e1]
          by_cases g2 : m - 1 - j = 0
          · rw [g2]; simp only [Nat.sub_self, Nat.zero_add] at a5 ⊢; omega
          · have := b5 (m - 1 - j + 1) (by omega) (by omega)
            simp only [Nat.add_sub_cancel] at this
            omega
  obtain ⟨m, p, e, h1, h3, hs, hp, hz⟩ := key
  rw [e]
  dsimp only
  by_cases q : m < n
  · rw [if_pos q]
    have em : max m 1 = m := by omega
    rw [em]
    obtain ⟨x, y⟩ := bin_ok (n - m) p m (by omega) hs
    rw [hz] at x
    exact ⟨x, y.trans hp⟩
  · rw [if_neg q]
    obtain rfl : m = n := by omega
    exact ⟨hs, hp⟩
end
end Mine
end
section
open PySem PySem.W PyProof.Rows PySem.SeqAt
set_option maxRecDepth 10000
set_option autoImplicit false
set_option linter.unusedVariables false
namespace Mine
/-- a tree that asks below n alone -/
def Asks {α : Type} (n : Nat) : KasT α → Prop
  | .ret _ => True
  | .ask i j k => i < n ∧ j < n ∧ ∀ b, Asks n (k b)
theorem run_wp' {α : Type} {cmp : Nat → Nat → (Bool → Shared → Prop) → Shared → Prop} {o : Nat → Nat → Bool} {s : Shared} {n : Nat} (h : ∀ i j (C : Bool → Shared → Prop), i < n → j < n → C (o i j) s → cmp i j C s) : ∀ (t : KasT α) (Q : α → Shared → Prop), Asks n t → Q (run o t) s → t.kasWp cmp Q s
  | .ret a, Q, _, hq => hq
  | .ask i j k, Q, ha, hq => h i j _ ha.1 ha.2.1 (run_wp' h (k (o i j)) Q (ha.2.2 _) hq)
/-- below n, and what comes back too -/
def Low (n : Nat) (p : Array Nat) : Prop := ∀ i, p.getD i 0 < n
def AsksR {α : Type} (n : Nat) (P : α → Prop) : KasT α → Prop
  | .ret a => P a
  | .ask i j k => i < n ∧ j < n ∧ ∀ b, AsksR n P (k b)
theorem AsksR.bind {α β : Type} {n : Nat} {P : α → Prop} {R : β → Prop} {f : α → KasT β} : ∀ (t : KasT α), AsksR n P t → (∀ a, P a → AsksR n R (f a)) → AsksR n R (t.bind f)
  | .ret a, h, g => g a h
  | .ask i j k, h, g => ⟨h.1, h.2.1, fun b => AsksR.bind (k b) (h.2.2 b) g⟩
theorem AsksR.asks {α : Type} {n : Nat} {P : α → Prop} : ∀ t : KasT α, AsksR n P t → Asks n t
  | .ret a, h => trivial
  | .ask i j k, h => ⟨h.1, h.2.1, fun b => AsksR.asks (k b) (h.2.2 b)⟩
theorem low_perm {n : Nat} {p q : Array Nat} (h : Low n p) (hp : q.Perm p) (h0 : 0 < n) : Low n q := fun i => by
  rw [Array.getD_eq_getD_getElem?]
  cases e : q[i]? with
  | none => exact h0
  | some x =>
    have hx : x ∈ p.toList := (Array.perm_iff_toList_perm.mp hp).mem_iff.mp (by rw [← Array.getElem?_toList] at e; exact List.mem_of_getElem? e)
    obtain ⟨j, hj, e2⟩ := List.getElem_of_mem hx
    have := h j
    rw [Array.getD_eq_getD_getElem?, ← Array.getElem?_toList, List.getElem?_eq_getElem hj, e2] at this
    exact this
theorem asks_asc {n : Nat} {p : Array Nat} (h : Low n p) : ∀ f k, AsksR n (fun _ => True) (kas_asc p f k)
  | 0, k => trivial
  | f + 1, k => ⟨h _, h _, fun b => by cases b with
    | true => exact trivial
    | false => exact asks_asc h f (k + 1)⟩
theorem asks_desc {n : Nat} (h0 : 0 < n) : ∀ f (p : Array Nat) k q, Low n p → AsksR n (fun r => Low n r.1) (kas_desc f p k q)
  | 0, p, k, q, h => h
  | f + 1, p, k, q, h => ⟨h _, h _, fun b => by
    cases b with
    | true =>
      show AsksR n _ (if q > 0 then _ else _)
      split
      · exact asks_desc h0 f _ _ _ (low_perm h (mirror_perm _ _ _ _) h0)
      · exact asks_desc h0 f _ _ _ h
    | false =>
      refine ⟨h _, h _, fun b => ?_⟩
      cases b with
      | true => exact h
      | false => exact asks_desc h0 f _ _ _ h⟩
theorem asks_tail3 {n : Nat} (h0 : 0 < n) {p : Array Nat} (h : Low n p) (k m : Nat) : AsksR n (fun r => Low n r.2) (kas_tail3 k m p) :=
  AsksR.bind _ (asks_asc (low_perm h (mirror_perm _ _ _ _) h0) _ _) fun _ _ => low_perm h (mirror_perm _ _ _ _) h0
theorem asks_descPart {n : Nat} (h0 : 0 < n) {p : Array Nat} (h : Low n p) (k m : Nat) : AsksR n (fun r => Low n r.2) (kas_descPart k m p) :=
  AsksR.bind _ (asks_desc h0 _ _ _ _ h) fun r hr => by
    show AsksR n _ (if r.2.2 > 0 then _ else _)
    split
    · exact asks_tail3 h0 (low_perm hr (mirror_perm _ _ _ _) h0) _ _
    · exact asks_tail3 h0 hr _ _
theorem asks_place {n : Nat} {p : Array Nat} (h : Low n p) (k : Nat) : ∀ f l u, AsksR n (fun _ => True) (kas_place p k f l u)
  | 0, _, _ => trivial
  | f + 1, l, u => by
    unfold kas_place
    split
    · exact trivial
    · exact ⟨h _, h _, fun b => by cases b <;> exact asks_place h k f _ _⟩
theorem asks_bin {n : Nat} (h0 : 0 < n) : ∀ f (p : Array Nat) k, Low n p → AsksR n (fun _ => True) (kas_bin f p k)
  | 0, _, _, _ => trivial
  | f + 1, p, k, h => AsksR.bind _ (asks_place h k _ _ _) fun l _ => asks_bin h0 f _ _ (low_perm h (bubble_perm _ _ _) h0)
theorem asks_sort {n : Nat} (h0 : 0 < n) : Asks n (kas_sort n) := by
  have hl : Low n (List.toArray (List.range n)) := fun i => by
    rw [Array.getD_eq_getD_getElem?, List.getElem?_toArray]
    by_cases h : i < n
    · rw [List.getElem?_range h]; exact h
    · rw [List.getElem?_eq_none (by simpa using Nat.le_of_not_lt h)]; exact h0
  refine AsksR.asks (P := fun _ => True) _ (AsksR.bind (P := fun r => Low n r.2) _ ?_ fun r hr => ?_)
  · refine AsksR.bind _ (asks_asc hl _ _) fun m _ => ?_
    split
    · exact hl
    · split
      · refine ⟨hl _, hl _, fun b => ?_⟩
        cases b with
        | true => exact hl
        | false => exact asks_descPart h0 (low_perm hl (mirror_perm _ _ _ _) h0) _ _
      · exact asks_descPart h0 hl _ _
  · split
    · exact asks_bin h0 _ _ _ hr
    · exact trivial

/-! pairs of ints below 5, as one number -/
def code (p : Int × Int) : Int := p.1 * 5 + p.2
def Low5 (p : Int × Int) : Prop := (0 ≤ p.1 ∧ p.1 < 5) ∧ 0 ≤ p.2 ∧ p.2 < 5
theorem code_inj {p q : Int × Int} (hp : Low5 p) (hq : Low5 q) (h : code p = code q) : p = q := by
  unfold code at h; unfold Low5 at hp hq
  apply Prod.ext <;> omega
theorem code_lt {p q : Int × Int} (hp : Low5 p) (hq : Low5 q) : (code p < code q) ↔ (p.1 < q.1 ∨ (p.1 = q.1 ∧ p.2 < q.2)) := by
  unfold code; unfold Low5 at hp hq
  omega
section
variable {C : Cx} {A : Around} {env : Env} {ρ : Loc} {H : AHeap} {s : Shared}
theorem pair_lt {p q : Int × Int} {va vb : Value} {Q : Bool → Shared → Prop} (hp : Low5 p) (hq : Low5 q) (h1 : VRep s.heap (.pair p) va) (h2 : VRep s.heap (.pair q) vb) (h : Q (decide (code p < code q)) s) : W C A (keyLt' (tuples' true) va vb) Q s := by
  obtain ⟨a, t, u, n, rfl, g⟩ := pair_rep h1
  obtain ⟨b, t', u', n', rfl, g'⟩ := pair_rep h2
  refine kat_lt g rfl g' rfl ?_
  show KatLex _ _ _ _ _ _ [(.int p.1 t, .int q.1 t'), (.int p.2 u, .int q.2 u')] 0 s
  have e0 : decide (#[Value.int p.1 t, Value.int p.2 u].size < #[Value.int q.1 t', Value.int q.2 u'].size) = false := rfl
  rw [e0]
  have hlt := code_lt hp hq
  refine kat_cons (wpAny_eqBool_int ?_)
  refine kat_go (fun e1 => kat_yes ?_) fun e1 => kat_no ?_
  · have e1' : p.1 = q.1 := by simpa using e1
    refine kat_cons (wpAny_eqBool_int ?_)
    refine kat_go (fun e2 => kat_yes ?_) fun e2 => kat_no ?_
    · have e2' : p.2 = q.2 := by simpa using e2
      refine kat_nil ?_
      rw [decide_eq_false (by rw [hlt]; omega)] at h
      exact h
    · have e2' : p.2 ≠ q.2 := by simpa using e2
      refine kat_one _ _ (PyProof.Rows.lt_int ?_)
      show Q _ s
      have : decide (p.2 < q.2) = decide (code p < code q) := by rw [decide_eq_decide, hlt]; omega
      rw [this]; exact h
  · have e1' : p.1 ≠ q.1 := by simpa using e1
    show wpAny _ _ (oneLt' true _ _) _ _ _
    refine oneLt_int ?_
    have : decide (p.1 < q.1) = decide (code p < code q) := by rw [decide_eq_decide, hlt]; omega
    rw [this]; exact h
end
end Mine
end
section
open PySem PySem.W PyProof.Rows PySem.SeqAt
set_option maxRecDepth 10000
set_option autoImplicit false
set_option linter.unusedVariables false
namespace Mine
theorem tups_of {h : Heap} : ∀ {ps : List (Int × Int)} {vs : List Value}, VReps h (ps.map .pair) vs → ∃ fs, KatTups h vs fs ∧ fs.length = vs.length ∧ ∀ f ∈ fs, ∃ i t, f = .int i t
  | [], [], _ => ⟨[], .nil, rfl, fun f hf => nomatch hf⟩
  | p :: ps, v :: vs, r => by
    obtain ⟨a, t, u, n, rfl, g⟩ := pair_rep r.1
    obtain ⟨fs, h1, h2, h3⟩ := tups_of r.2
    exact ⟨.int p.1 t :: fs, .cons g rfl rfl rfl h1, by simp [h2], fun f hf => by
      rcases List.mem_cons.mp hf with rfl | hf
      · exact ⟨_, _, rfl⟩
      · exact h3 f hf⟩
  | [], _ :: _, r => r.elim
  | _ :: _, [], r => r.elim
theorem perm_pick {α β : Type} (d : α) (e : β) (xs : List α) (p : Array Nat) (h : p.Perm (List.toArray (List.range xs.length))) : (p.toList.map fun i => xs.getD i d).Perm xs := by
  have h' := Array.perm_iff_toList_perm.mp h
  have := h'.map fun i => xs.getD i d
  refine this.trans (List.Perm.of_eq ?_)
  apply List.ext_getElem?
  intro i
  rw [List.getElem?_map]
  by_cases hi : i < xs.length
  · show ((List.range xs.length)[i]?).map _ = _
    rw [List.getElem?_range hi]
    simp [List.getElem?_eq_getElem hi, List.getD_eq_getElem?_getD]
  · show ((List.range xs.length)[i]?).map _ = _
    rw [List.getElem?_eq_none (by simpa using Nat.le_of_not_lt hi), List.getElem?_eq_none (Nat.le_of_not_lt hi)]; rfl
theorem reps_pick {h : Heap} {ps : List (Int × Int)} {vs : List Value} (r : VReps h (ps.map .pair) vs) : ∀ (is : List Nat), (∀ i ∈ is, i < vs.length) → VReps h ((is.map fun i => ps.getD i (0, 0)).map .pair) (is.map fun i => vs.getD i Value.none)
  | [], _ => trivial
  | i :: is, hi => by
    have hl : ps.length = vs.length := by simpa using r.length
    have h1 := hi i (by simp)
    refine ⟨?_, reps_pick r is fun j hj => hi j (by simp [hj])⟩
    have gi : ps[i]? = some (ps.getD i (0, 0)) := by
      rw [List.getD_eq_getElem?_getD, List.getElem?_eq_getElem (by omega)]; rfl
    obtain ⟨ci, hci, ri⟩ := r.get (i := i) (v := .pair (ps.getD i (0, 0))) (by rw [List.getElem?_map, gi]; rfl)
    show VRep h _ (vs.getD i Value.none)
    rw [List.getD_eq_getElem?_getD, hci]
    exact ri
section
variable {C : Cx} {A : Around} {env : Env} {ρ : Loc} {H : AHeap} {s : Shared}
theorem list_sort_pairs {a : Addr} {vs : List Value} {ps : List (Int × Int)} {n : Nat} {P : Fin → Shared → Prop} (ho : s.heap.get? a = some (seqObj "list" vs.toArray n)) (hr : VReps s.heap (ps.map .pair) vs) (hnd : ps.Nodup) (h5 : ∀ p ∈ ps, Low5 p)
    (h64 : vs.length < 64)
    (h : ∀ (out : List Value) (qs : List (Int × Int)), VReps s.heap (qs.map .pair) out → qs.Perm ps → qs.Pairwise (fun p q => code p ≤ code q) → P (.done (.ret .none)) { s with heap := sortedHeap s.heap a vs out.toArray }) :
    W C A (Builtin.«list.sort» ⟨[.ref a], []⟩) P s := by
  rw [list_sort_plain]
  have ha : a < s.heap.objs.size := Heap.lt_size ho
  have hl : ps.length = vs.length := by simpa using hr.length
  refine wpAny_bind (listItems_at ho rfl ?_)
  refine wpAny_bind (listUpdate_at ho rfl ?_ (by rw [List.size_toArray, sizeLine_eq]; omega) (Nat.zero_le _))
  obtain ⟨e1, ho1⟩ : ∃ e1, (s.heap.update a (Obj.mapSeq fun _ => #[])).get? a = some (seqObj "list" #[] e1) := ⟨_, get?_update_seq ho (fun _ => #[])⟩
  refine wpAny_bind (seqEpoch_at ho1 rfl ?_)
  refine wpAny_bind (wpAny_newTuple ?_ (by show vs.length ≤ _; rw [sizeLine_eq]; omega))
  refine wpAny_bind (wpAny_newList ?_ (Nat.zero_le _))
  refine wpAny_holding ?_
  have ho6 : (((s.heap.update a (Obj.mapSeq fun _ => #[])).push (seqObj "tuple" vs.toArray 0)).push (seqObj "list" #[] 0)).get? a = some (seqObj "list" #[] e1) := by
    rw [Heap.get?_push_ne _ _ _ (by rw [size_push', Heap.size_update]; exact Nat.ne_of_lt (Nat.lt_succ_of_lt ha)), Heap.get?_push_ne _ _ _ (by rw [Heap.size_update]; exact Nat.ne_of_lt ha)]
    exact ho1
  have x6 : TExt s.heap (((s.heap.update a (Obj.mapSeq fun _ => #[])).push (seqObj "tuple" vs.toArray 0)).push (seqObj "list" #[] 0)) := fun b ws k e =>
    Heap.get?_push_of_some _ (Heap.get?_push_of_some _ ((Heap.get?_update_other _ _ (fun q => by
      subst q; rw [ho] at e
      exact absurd (Value.type.inj (congrArg Obj.cls (Option.some.inj e))) (by decide))).trans e))
  show wpAny (model C.prog C.w) A _ P _ { s with heap := ((s.heap.update a (Obj.mapSeq fun _ => #[])).push (seqObj "tuple" vs.toArray 0)).push (seqObj "list" #[] 0) }
  dsimp only
  have hsz : vs.toArray.size = vs.length := by simp
  by_cases h2 : vs.toArray.size < 2
  · rw [if_pos h2, if_pos h2]
    refine wpAny_bind (wpAny_pure ?_)
    rw [StateT.run_pure]
    refine wpAny_bind (wpAny_pure ?_)
    dsimp only
    refine wpAny_bind (seqEpoch_at ho6 rfl ?_)
    have e7 : (arrOf (SortSt.mk' general' (vs.toArray.zip vs.toArray) #[] 7 none)).map (·.2) = vs.toArray := by
      show (vs.toArray.zip vs.toArray).map (·.2) = _
      apply Array.toList_inj.mp
      simp
      exact List.map_snd_zip (Nat.le_refl _)
    show wpAny _ _ (Builtin.List.listUpdate (.ref a) (fun _ => (arrOf (SortSt.mk' general' (vs.toArray.zip vs.toArray) #[] 7 none)).map (·.2)) >>= _) _ _ _
    rw [e7]
    refine wpAny_bind (listUpdate_at ho6 rfl ?_ (Nat.zero_le _) (by rw [List.size_toArray, sizeLine_eq]; omega))
    simp only [bne_self_eq_false, Bool.false_eq_true, if_false]
    refine wpAny_pure (h vs ps hr (.refl _) ?_)
    rw [List.size_toArray] at h2
    match ps, hl with
    | [], _ => exact .nil
    | [_], _ => exact List.pairwise_singleton _ _
    | _ :: _ :: _, hl => simp at hl; omega
  · rw [if_neg h2, if_neg h2]
    rw [List.size_toArray] at h2
    obtain ⟨fs, t1, t2, t3⟩ := tups_of (hr.t x6)
    refine wpAny_bind (kat_kind (T := .type "int") t1 (by omega) (fun v hv => ?_) (by decide) ?_)
    · obtain ⟨i, t, rfl⟩ := t3 v hv
      exact fun A Q E s' _ q => wpAny_typeOf (T := "int") rfl q
    have hT : (Value.type "int" != Value.type "tuple") = true := by decide
    rw [hT]
    have hr6 := hr.t x6
    refine wpAny_bind (wpAny_mono (kat_run (E := fun _ _ => False) (Q := fun st' s' => ∃ p : Array Nat, p.size = vs.length ∧ arrOf st' = p.map (kas_item (vs.toArray.zip vs.toArray)) ∧ failedOf st' = none ∧
        (s' = { s with heap := ((s.heap.update a (Obj.mapSeq fun _ => #[])).push (seqObj "tuple" vs.toArray 0)).push (seqObj "list" #[] 0) } ∧ p = run (ord fun i => code (ps.getD i (0, 0))) (kas_sort vs.length)))
      rfl (by omega) h64 (fun p' st' s' a1 a2 a3 a4 => ⟨p', a1, a2, a3, a4⟩) (run_wp' (o := ord fun i => code (ps.getD i (0, 0))) (n := vs.length) (fun i j Cc hi hj hc => ?_) _ _ (asks_sort (by omega)) ⟨rfl, rfl⟩)) ?_ fun _ _ e => e)
    · have gi : ps[i]? = some (ps.getD i (0, 0)) := by
        rw [List.getD_eq_getElem?_getD, List.getElem?_eq_getElem (by omega)]; rfl
      have gj : ps[j]? = some (ps.getD j (0, 0)) := by
        rw [List.getD_eq_getElem?_getD, List.getElem?_eq_getElem (by omega)]; rfl
      obtain ⟨ci, hci, ri⟩ := hr6.get (i := i) (v := .pair (ps.getD i (0, 0))) (by rw [List.getElem?_map, gi]; rfl)
      obtain ⟨cj, hcj, rj⟩ := hr6.get (i := j) (v := .pair (ps.getD j (0, 0))) (by rw [List.getElem?_map, gj]; rfl)
      show wpAny _ _ (keyLt' _ (vs.getD i Value.none) (vs.getD j Value.none)) _ _ _
      rw [List.getD_eq_getElem?_getD, List.getD_eq_getElem?_getD, hci, hcj]
      exact pair_lt (h5 _ (List.mem_of_getElem? gi)) (h5 _ (List.mem_of_getElem? gj)) ri rj hc
    · rintro ⟨⟨⟩, st'⟩ s' ⟨p, hp, har, hf, rfl, hp2⟩
      dsimp only
      have hout := kat_snds rfl har
      have hsort := sort_ok (r := fun i => code (ps.getD i (0, 0))) (n := vs.length) (by omega) fun i j hi hj e => by
        have gi : ps[i]? = some (ps.getD i (0, 0)) := by
          rw [List.getD_eq_getElem?_getD, List.getElem?_eq_getElem (by omega)]; rfl
        have gj : ps[j]? = some (ps.getD j (0, 0)) := by
          rw [List.getD_eq_getElem?_getD, List.getElem?_eq_getElem (by omega)]; rfl
        have := code_inj (h5 _ (List.mem_of_getElem? gi)) (h5 _ (List.mem_of_getElem? gj)) e
        rw [← this, ← gi] at gj
        exact (List.getElem_inj hnd).mp (by
          rw [List.getElem?_eq_getElem (by omega), List.getElem?_eq_getElem (by omega)] at gj
          exact (Option.some.inj gj).symm)
      rw [← hp2] at hsort
      obtain ⟨hs1, hs2⟩ := hsort
      rw [hout]
      refine wpAny_bind (seqEpoch_at ho6 rfl ?_)
      refine wpAny_bind (listUpdate_at ho6 rfl ?_ (Nat.zero_le _) (by rw [List.size_toArray, List.length_map, Array.length_toList, hp, sizeLine_eq]; omega))
      rw [hf]
      simp only [bne_self_eq_false, Bool.false_eq_true, if_false]
      refine wpAny_pure (h (p.toList.map fun i => vs.getD i Value.none) (p.toList.map fun i => ps.getD i (0, 0)) ?_ (perm_pick (β := Unit) _ () ps p (by rw [hl]; exact hs2)) ?_)
      · refine reps_pick hr _ fun i hi => ?_
        have hm := (Array.perm_iff_toList_perm.mp hs2).mem_iff.mp hi
        have : i ∈ List.range vs.length := hm
        exact List.mem_range.mp this
      · rw [List.pairwise_iff_getElem]
        intro i j hi hj hij
        simp only [List.length_map, Array.length_toList] at hi hj
        simp only [List.getElem_map, Array.getElem_toList]
        have := hs1.all j i (by omega) (by omega)
        unfold ky at this
        rw [Array.getD_eq_getD_getElem?, Array.getD_eq_getD_getElem?, Array.getElem?_eq_getElem hi, Array.getElem?_eq_getElem hj] at this
        exact this
end
end Mine
end
section
set_option autoImplicit false
set_option linter.unusedVariables false
namespace Mine
/-- b can be reached from a in one step or more -/
inductive Reach (ps : List (Int × Int)) : Int → Int → Prop where
  | one {a b : Int} : (a, b) ∈ ps → Reach ps a b
  | step {a b c : Int} : (a, b) ∈ ps → Reach ps b c → Reach ps a c
theorem Reach.trans {ps : List (Int × Int)} {a b c : Int} (x : Reach ps a b) (y : Reach ps b c) : Reach ps a c := by
  induction x with
  | one h => exact .step h y
  | step h _ ih => exact .step h (ih y)
theorem Reach.last {ps : List (Int × Int)} {a c : Int} (x : Reach ps a c) : ∃ b, (a = b ∨ Reach ps a b) ∧ (b, c) ∈ ps := by
  induction x with
  | one h => exact ⟨_, .inl rfl, h⟩
  | step h _ ih =>
    obtain ⟨b, q, e⟩ := ih
    rcases q with rfl | q
    · exact ⟨_, .inr (.one h), e⟩
    · exact ⟨_, .inr (.step h q), e⟩
theorem Reach.first {ps : List (Int × Int)} {a c : Int} (x : Reach ps a c) : ∃ b, (a, b) ∈ ps ∧ (b = c ∨ Reach ps b c) := by
  cases x with
  | one h => exact ⟨_, h, .inl rfl⟩
  | step h q => exact ⟨_, h, .inr q⟩
theorem Reach.mono {ps qs : List (Int × Int)} {a b : Int} (h : ∀ p ∈ ps, p ∈ qs) (x : Reach ps a b) : Reach qs a b := by
  induction x with
  | one e => exact .one (h _ e)
  | step e _ ih => exact .step (h _ e) ih
abbrev Ring (ps : List (Int × Int)) (x : Int) : Prop := Reach ps x x
theorem mem_insI {S : List Int} {k y : Int} : y ∈ insI S k ↔ y ∈ S ∨ y = k := by
  unfold insI
  split
  · rename_i h
    constructor
    · exact .inl
    · rintro (q | rfl)
      · exact q
      · exact h
  · simp
theorem insI_nodup {S : List Int} {k : Int} (h : S.Nodup) : (insI S k).Nodup := by
  unfold insI
  split
  · exact h
  · rename_i q
    rw [List.nodup_append]
    refine ⟨h, by simp, fun a ha b hb e => ?_⟩
    simp at hb; subst hb; subst e; exact q ha
theorem mem_insAll : ∀ {l S : List Int} {y : Int}, y ∈ l.foldl insI S ↔ y ∈ S ∨ y ∈ l
  | [], S, y => by simp
  | x :: xs, S, y => by
    rw [List.foldl_cons, mem_insAll, mem_insI, List.mem_cons, or_assoc]
theorem insAll_nodup : ∀ {l S : List Int}, S.Nodup → (l.foldl insI S).Nodup
  | [], S, h => h
  | x :: xs, S, h => by rw [List.foldl_cons]; exact insAll_nodup (insI_nodup h)
theorem length_le_of_sub : ∀ {l m : List Int}, l.Nodup → (∀ x ∈ l, x ∈ m) → l.length ≤ m.length
  | [], m, _, _ => Nat.zero_le _
  | x :: xs, m, h, hs => by
    rw [List.nodup_cons] at h
    have hx := hs x List.mem_cons_self
    have := length_le_of_sub (l := xs) (m := m.erase x) h.2 fun y hy => (List.mem_erase_of_ne (by rintro rfl; exact h.1 hy)).mpr (hs y (List.mem_cons_of_mem _ hy))
    rw [List.length_erase_of_mem hx] at this
    have : 0 < m.length := List.length_pos_of_mem hx
    simp only [List.length_cons]; omega
theorem le5 {l : List Int} (h : l.Nodup) (hs : ∀ x ∈ l, 0 ≤ x ∧ x < 5) : l.length ≤ 5 :=
  length_le_of_sub (m := [0, 1, 2, 3, 4]) h fun x hx => by
    have := hs x hx
    simp only [List.mem_cons, List.not_mem_nil, or_false]; omega
theorem erase_all {l td : List Int} (h : ∀ x ∈ l, x ∉ td) : l.foldl List.erase td = td := by
  induction l generalizing td with
  | nil => rfl
  | cons x xs ih =>
    rw [List.foldl_cons, List.erase_of_not_mem (h x List.mem_cons_self)]
    exact ih fun y hy => h y (List.mem_cons_of_mem _ hy)
/-- what follows k -/
def succOf (ps : List (Int × Int)) (k : Int) : List Int := ((ps.filter (·.1 == k)).map (·.2)).foldl insI []
theorem mem_succ {ps : List (Int × Int)} {k y : Int} : y ∈ succOf ps k ↔ (k, y) ∈ ps := by
  unfold succOf
  rw [mem_insAll]
  simp only [List.not_mem_nil, false_or, List.mem_map, List.mem_filter, beq_iff_eq]
  constructor
  · rintro ⟨⟨a, b⟩, ⟨h, rfl⟩, rfl⟩; exact h
  · intro h; exact ⟨_, ⟨h, rfl⟩, rfl⟩
theorem succ_snoc {ps : List (Int × Int)} {p : Int × Int} : succOf (ps ++ [p]) = fun k => if k = p.1 then insI (succOf ps p.1) p.2 else succOf ps k := by
  funext k
  unfold succOf
  rw [List.filter_append, List.map_append, List.foldl_append]
  by_cases e : k = p.1
  · subst e
    rw [if_pos rfl, List.filter_cons, if_pos (by simp)]; rfl
  · rw [if_neg e, List.filter_cons, if_neg (by simpa using fun q => e q.symm)]; rfl
theorem succ_nodup {ps : List (Int × Int)} {k : Int} : (succOf ps k).Nodup := insAll_nodup List.nodup_nil

/-- the search for rings from v on: the way it stands on, what it has still to see, what it found -/
structure Dfs (ps : List (Int × Int)) (K : List Int) (v : Int) (stk td S : List Int) : Prop where
  head : ∀ x, stk.head? = some x → x = v
  chain : ∀ i x y, stk[i]? = some x → stk[i + 1]? = some y → (x, y) ∈ ps
  stkN : stk.Nodup
  stkK : ∀ x ∈ stk, x ∈ K
  tdK : ∀ x ∈ td, x ∈ K
  tdN : td.Nodup
  off : ∀ x ∈ stk, x ∉ td
  vtd : v ∉ td
  done : ∀ d ∈ K, d ∉ td → d ∉ stk → (∀ y, (d, y) ∈ ps → y ∉ td) ∧ ((d, v) ∈ ps → v ∈ S)
  sound : ∀ x ∈ S, Ring ps x
variable {ps : List (Int × Int)} {K : List Int} {v : Int} {stk td S : List Int}
theorem Dfs.reach (d : Dfs ps K v stk td S) : ∀ (n i : Nat) (x y : Int), stk[i]? = some x → stk[i + n]? = some y → x = y ∨ Reach ps x y
  | 0, i, x, y, h1, h2 => by rw [Nat.add_zero, h1] at h2; exact .inl (Option.some.inj h2)
  | n + 1, i, x, y, h1, h2 => by
    have hl : i + (n + 1) < stk.length := (List.getElem?_eq_some_iff.mp h2).1
    have h3 : stk[i + 1]? = some (stk[i + 1]'(by omega)) := List.getElem?_eq_getElem _
    have e := d.chain i x _ h1 h3
    rcases d.reach n (i + 1) _ y h3 (by rw [show i + 1 + n = i + (n + 1) by omega]; exact h2) with q | q
    · rw [q] at e; exact .inr (.one e)
    · exact .inr (.step e q)
theorem Dfs.start {v : Int} {K : List Int} {S : List Int} (hK : K.Nodup) (hv : v ∈ K) (hS : ∀ x ∈ S, Ring ps x) : Dfs ps K v [v] (K.erase v) S where
  head := fun x h => by simp at h; exact h.symm
  chain := fun i x y h1 h2 => by cases i <;> simp at h2
  stkN := by simp
  stkK := fun x hx => by simp at hx; subst hx; exact hv
  tdK := fun x hx => List.mem_of_mem_erase hx
  tdN := hK.erase _
  off := fun x hx => by simp at hx; subst hx; exact hK.not_mem_erase
  vtd := hK.not_mem_erase
  done := fun d hd h1 h2 => by
    simp at h2
    exact absurd ((List.mem_erase_of_ne h2).mpr hd) h1
  sound := hS
/-- a ring is found -/
theorem Dfs.found (d : Dfs ps K v stk td S) {top y : Int} {j : Nat} (ht : stk.getLast? = some top) (he : (top, y) ∈ ps) (hj : stk[j]? = some y) :
    Dfs ps K v stk td ((stk.drop j).foldl insI S) where
  head := d.head
  chain := d.chain
  stkN := d.stkN
  stkK := d.stkK
  tdK := d.tdK
  tdN := d.tdN
  off := d.off
  vtd := d.vtd
  done := fun x hx h1 h2 => ⟨(d.done x hx h1 h2).1, fun h => mem_insAll.mpr (.inl ((d.done x hx h1 h2).2 h))⟩
  sound := fun x hx => by
    rcases mem_insAll.mp hx with q | q
    · exact d.sound x q
    · obtain ⟨m, hm, e⟩ := List.getElem_of_mem q
      have hm' : j + m < stk.length := by simp at hm; omega
      have hx' : stk[j + m]? = some x := by rw [List.getElem?_eq_getElem hm']; simpa using e
      rw [List.getLast?_eq_getElem?] at ht
      have r1 := d.reach m j y x hj hx'
      have r2 := d.reach (stk.length - 1 - (j + m)) (j + m) x top hx' (by rw [show j + m + (stk.length - 1 - (j + m)) = stk.length - 1 by omega]; exact ht)
      have r3 : Reach ps x y := by
        rcases r2 with rfl | q
        · exact .one he
        · exact q.trans (.one he)
      rcases r1 with rfl | q
      · exact r3
      · exact r3.trans q
/-- on to y -/
theorem Dfs.push (d : Dfs ps K v stk td S) {top y : Int} (ht : stk.getLast? = some top) (he : (top, y) ∈ ps) (hy : y ∈ td) : Dfs ps K v (stk ++ [y]) (td.erase y) S where
  head := fun x h => by
    cases stk with
    | nil => simp at ht
    | cons a r => exact d.head x h
  chain := fun i x z h1 h2 => by
    rcases Nat.lt_trichotomy (i + 1) stk.length with q | q | q
    · rw [List.getElem?_append_left (by omega)] at h1
      rw [List.getElem?_append_left q] at h2
      exact d.chain i x z h1 h2
    · rw [List.getElem?_append_left (by omega)] at h1
      rw [List.getElem?_append_right (by omega), q, Nat.sub_self] at h2
      rw [List.getLast?_eq_getElem?, show stk.length - 1 = i by omega, h1] at ht
      simp at h2
      rw [Option.some.inj ht, ← h2]; exact he
    · rw [List.getElem?_eq_none (by simp; omega)] at h2; cases h2
  stkN := by
    rw [List.nodup_append]
    refine ⟨d.stkN, by simp, fun a ha b hb e => ?_⟩
    simp at hb; subst hb; subst e; exact d.off a ha hy
  stkK := fun x hx => by
    rcases List.mem_append.mp hx with q | q
    · exact d.stkK x q
    · simp at q; subst q; exact d.tdK x hy
  tdK := fun x hx => d.tdK x (List.mem_of_mem_erase hx)
  tdN := d.tdN.erase _
  off := fun x hx q => by
    rcases List.mem_append.mp hx with w | w
    · exact d.off x w (List.mem_of_mem_erase q)
    · simp at w; subst w; exact d.tdN.not_mem_erase q
  vtd := fun q => d.vtd (List.mem_of_mem_erase q)
  done := fun x hx h1 h2 => by
    have h2' : x ∉ stk ∧ x ≠ y := by simpa using h2
    have h1' : x ∉ td := fun q => h1 ((List.mem_erase_of_ne h2'.2).mpr q)
    obtain ⟨g1, g2⟩ := d.done x hx h1' h2'.1
    exact ⟨fun z hz q => g1 z hz (List.mem_of_mem_erase q), g2⟩
  sound := d.sound
/-- back -/
theorem Dfs.pop {top : Int} (d : Dfs ps K v (stk ++ [top]) td S) (h : ∀ y, (top, y) ∈ ps → y ∉ td ∧ (y = v → v ∈ S)) : Dfs ps K v stk td S where
  head := fun x hx => d.head x (by cases stk with | nil => simp at hx | cons a r => exact hx)
  chain := fun i x y h1 h2 => by
    have l2 := (List.getElem?_eq_some_iff.mp h2).1
    exact d.chain i x y (by rw [List.getElem?_append_left (by omega)]; exact h1) (by rw [List.getElem?_append_left l2]; exact h2)
  stkN := (List.nodup_append.mp d.stkN).1
  stkK := fun x hx => d.stkK x (List.mem_append.mpr (.inl hx))
  tdK := d.tdK
  tdN := d.tdN
  off := fun x hx => d.off x (List.mem_append.mpr (.inl hx))
  vtd := d.vtd
  done := fun x hx h1 h2 => by
    by_cases e : x = top
    · subst e; exact ⟨fun y hy => (h y hy).1, fun q => (h v q).2 rfl⟩
    · exact d.done x hx h1 (by simp [h2, e])
  sound := d.sound
/-- at the end of the search -/
theorem Dfs.fin (d : Dfs ps K v [] td S) (hK : ∀ x y, (x, y) ∈ ps → x ∈ K) (hr : Ring ps v) : v ∈ S := by
  have key : ∀ a b, Reach ps a b → a ∉ td → b ∉ td := fun a b r => by
    induction r with
    | one h => intro ha; exact (d.done _ (hK _ _ h) ha (by simp)).1 _ h
    | step h _ ih => intro ha; exact ih ((d.done _ (hK _ _ h) ha (by simp)).1 _ h)
  obtain ⟨b, q, e⟩ := hr.last
  have hb : b ∉ td := by
    rcases q with rfl | q
    · exact d.vtd
    · exact key _ _ q d.vtd
  exact (d.done b (hK _ _ e) hb (by simp)).2 e
end Mine
end
section
open PySem PySem.W PyProof.Rows PySem.SeqAt
set_option maxRecDepth 10000
set_option autoImplicit false
set_option linter.unusedVariables false
namespace Mine
theorem meth_sadd : Meth "set" "add" "set.add" := ⟨PySem.F.plainAttrs_set, PySem.F.slot_set_add, PySem.F.type_set_add⟩
theorem meth_supdate : Meth "set" "update" "set.update" := ⟨PySem.F.plainAttrs_set, PySem.F.slot_set_update, PySem.F.type_set_update⟩
theorem meth_sremove : Meth "set" "remove" "set.remove" := ⟨PySem.F.plainAttrs_set, PySem.F.slot_set_remove, PySem.F.type_set_remove⟩
theorem meth_sdiff : Meth "set" "difference" "set.difference" := ⟨PySem.F.plainAttrs_set, PySem.F.slot_set_difference, PySem.F.type_set_difference⟩
theorem meth_sdiffupd : Meth "set" "difference_update" "set.difference_update" := ⟨PySem.F.plainAttrs_set, PySem.F.slot_set_difference_update, PySem.F.type_set_difference_update⟩
theorem meth_sdisj : Meth "set" "isdisjoint" "set.isdisjoint" := ⟨PySem.F.plainAttrs_set, PySem.F.slot_set_isdisjoint, PySem.F.type_set_isdisjoint⟩
theorem meth_pop : Meth "list" "pop" "list.pop" := ⟨PySem.F.plainAttrs_list, PySem.F.slot_list_pop, PySem.F.type_list_pop⟩
theorem meth_index : Meth "list" "index" "list.index" := ⟨PySem.F.plainAttrs_list, PySem.F.slot_list_index, PySem.F.type_list_index⟩
section
variable {C : Cx} {A : Around} {env : Env} {ρ : Loc} {H : AHeap} {s : Shared}
/-- what holds of the edges after some of the pairs -/
structure Built (H : AHeap) (E : Addr) (qs : List (Int × Int)) (es : List (Int × Addr)) : Prop where
  ok : DDOk H E es (succOf qs)
  keys : ∀ x, x ∈ es.map (·.1) ↔ x ∈ qs.map (·.1)
  len : es.length ≤ qs.length
theorem Built.nil {H : AHeap} {E : Addr} : Built (H.upd E (.dd [])) E [] [] := ⟨DDOk.nil, fun x => by simp, Nat.le_refl _⟩
theorem Built.snoc {H H' : AHeap} {E b : Addr} {qs : List (Int × Int)} {es es' : List (Int × Addr)} {q : Int × Int} (B : Built H E qs es) (d : DDOk H' E es' (succOf qs)) (hb : (q.1, b) ∈ es') (he : es' = es ∨ (q.1 ∉ es.map (·.1) ∧ es' = es ++ [(q.1, b)])) :
    Built (H'.upd b (.iset (insI (succOf qs q.1) q.2))) E (qs ++ [q]) es' where
  ok := by rw [succ_snoc]; exact d.put hb
  keys := fun x => by
    rcases he with rfl | ⟨_, rfl⟩
    · have := (B.keys q.1).mp (List.mem_map.mpr ⟨_, hb, rfl⟩)
      rw [B.keys, List.map_append, List.mem_append]
      constructor
      · exact .inl
      · rintro (w | w)
        · exact w
        · simp at w; subst w; exact this
    · rw [List.map_append, List.map_append, List.mem_append, List.mem_append, B.keys]
      simp
  len := by
    have := B.len
    rcases he with rfl | ⟨_, rfl⟩ <;> simp <;> omega

theorem AHeap.fz_out {H : AHeap} {L : List Addr} {b : Addr} (h : b ∉ L) : H.fz L b = H b := by unfold AHeap.fz; rw [if_neg h]
theorem AHeap.fz_in {H : AHeap} {L : List Addr} {b : Addr} {o : AObj} (h : b ∈ L) (e : H b = some o) : H.fz L b = o.freeze := by unfold AHeap.fz; rw [if_pos h, e]; rfl
/-- what stands through the search -/
structure CInv (ρ : Loc) (H : AHeap) (E N O : Addr) (es : List (Int × Addr)) (ps : List (Int × Int)) (KS S : List Int) : Prop where
  e : ρ "edges" = some (.ref E)
  n : ρ "nodes_to_test" = some (.ref N)
  o : ρ "output" = some (.ref O)
  D : DDFz H E es (succOf ps)
  hn : H N = some (.rset KS)
  ho : H O = some (.iset S)
/-- a is none of those -/
def Off (H : AHeap) (a : Addr) : Prop := (∀ S, H a ≠ some (.rset S)) ∧ (∀ S, H a ≠ some (.iset S)) ∧ ∀ es, H a ≠ some (.rdd es)
theorem Off.none {H : AHeap} {a : Addr} (h : H a = none) : Off H a := ⟨fun S e => by (rw [h] at e; cases e), fun S e => by (rw [h] at e; cases e), fun S e => by rw [h] at e; cases e⟩
theorem Off.list {H : AHeap} {a : Addr} {xs : List AV} (h : H a = some (.list xs)) : Off H a := ⟨fun S e => by (rw [h] at e; cases e), fun S e => by (rw [h] at e; cases e), fun S e => by rw [h] at e; cases e⟩
theorem Off.wset {H : AHeap} {a : Addr} {xs : List Int} (h : H a = some (.wset xs)) : Off H a := ⟨fun S e => by (rw [h] at e; cases e), fun S e => by (rw [h] at e; cases e), fun S e => by rw [h] at e; cases e⟩
variable {E N O : Addr} {es : List (Int × Addr)} {ps : List (Int × Int)} {KS S : List Int}
theorem CInv.change {a : Addr} {o : AObj} (c : CInv ρ H E N O es ps KS S) (f : Off H a) : CInv ρ (H.upd a o) E N O es ps KS S where
  e := c.e
  n := c.n
  o := c.o
  D := ⟨by rw [AHeap.upd_ne _ _ fun q => f.2.2 es (by rw [← q]; exact c.D.at_)]; exact c.D.at_, c.D.keysN, fun p hp => by rw [AHeap.upd_ne _ _ fun q => f.1 _ (by rw [← q]; exact c.D.sets p hp)]; exact c.D.sets p hp, c.D.off⟩
  hn := by rw [AHeap.upd_ne _ _ fun q => f.1 _ (by rw [← q]; exact c.hn)]; exact c.hn
  ho := by rw [AHeap.upd_ne _ _ fun q => f.2.1 _ (by rw [← q]; exact c.ho)]; exact c.ho
theorem CInv.out {S' : List Int} (c : CInv ρ H E N O es ps KS S) : CInv ρ (H.upd O (.iset S')) E N O es ps KS S' where
  e := c.e
  n := c.n
  o := c.o
  D := ⟨by rw [AHeap.upd_ne _ _ fun q => by have := c.D.at_; rw [q, c.ho] at this; cases this]; exact c.D.at_, c.D.keysN, fun p hp => by rw [AHeap.upd_ne _ _ fun q => by have := c.D.sets p hp; rw [q, c.ho] at this; cases this]; exact c.D.sets p hp, c.D.off⟩
  hn := by rw [AHeap.upd_ne _ _ fun q => by have := c.hn; rw [q, c.ho] at this; cases this]; exact c.hn
  ho := AHeap.upd_self _ _ _
theorem CInv.loc {x : Str} {v : AV} (c : CInv ρ H E N O es ps KS S) (h1 : "edges" ≠ x) (h2 : "nodes_to_test" ≠ x) (h3 : "output" ≠ x) : CInv (ρ.upd x v) H E N O es ps KS S :=
  ⟨by rw [Loc.upd_ne _ _ h1]; exact c.e, by rw [Loc.upd_ne _ _ h2]; exact c.n, by rw [Loc.upd_ne _ _ h3]; exact c.o, c.D, c.hn, c.ho⟩
theorem cyc_search (k : C.Ok) (hsc : C.sc = fnS 6) (hro : C.ro = false) (c : CInv ρ H E N O es ps KS []) (hk : ∀ x, x ∈ KS ↔ x ∈ es.map (·.1)) (hk' : ∀ x, x ∈ KS ↔ x ∈ ps.map (·.1)) (hKN : KS.Nodup) (hin : ∀ p ∈ ps, (0 ≤ p.1 ∧ p.1 < 5) ∧ 0 ≤ p.2 ∧ p.2 < 5) :
    TSs C ((fnB 6).drop 4) ρ H fun f ρ' H' => ∃ S, f = .ret (.ref O) ∧ H' O = some (.iset S) ∧ S.Nodup ∧ ∀ x, x ∈ S ↔ Ring ps x := by
  have hsl : sizeLine = 2 ^ 24 := rfl
  refine TSs_cons (TS_for (fun env x => rfl) (TE_name (ld_of hsc rfl) (v := .ref N) (by exact c.n) ⟨_, _, iter_rset c.hn, fun xs hx => ?_⟩))
  obtain ⟨m, rfl, hm⟩ := hx
  refine ⟨fun i ρ' H' => ∃ S, CInv ρ' H' E N O es ps KS S ∧ S.Nodup ∧ (∀ x ∈ S, Ring ps x) ∧ ∀ x ∈ m.take i, Ring ps x → x ∈ S,
    ⟨[], c, .nil, (fun x hx => nomatch hx), (fun x hx => nomatch hx)⟩, fun i ρ' H' h => h.choose_spec.1.hn, fun i ρ₂ H₂ v hv hI I ob => ?_, fun ρ₂ H₂ hI => ?_⟩
  · obtain ⟨v, hv', rfl⟩ := item_int hv
    obtain ⟨S, c, sN, sR, sA⟩ := hI
    have hvK : v ∈ KS := hm.mem_iff.mp (List.mem_of_getElem? hv')
    have htk : m.take (i + 1) = m.take i ++ [v] := by rw [List.take_add_one, hv']; rfl
    refine TA_name (st_of hsc hro rfl) ?_
    have c1 : CInv (ρ₂.upd "node" (.int v)) H₂ E N O es ps KS S := c.loc (by decide) (by decide) (by decide)
    refine TSs_cons (TS_assign (fun env => rfl) (st_of hsc hro rfl) (TE_list (TEs_cons (fun env => rfl) (TE_name (ld_of hsc rfl) (v := .int v) rfl (TEs_nil ⟨by (show 1 ≤ sizeLine; decide), fun st hst => ?_⟩)))))
    have c2 := (c1.change (o := .list [.int v]) (.none hst)).loc (x := "stack") (v := .ref st) (by decide) (by decide) (by decide)
    refine TSs_cons (TS_assign (fun env => rfl) (st_of hsc hro rfl) (TE_meth (fun env => rfl) (fun env => rfl) rfl (fun env => .inr ⟨_, _, rfl, rfl⟩) (TE_name (ld_of hsc rfl) (v := .ref N) (by exact c2.n) ⟨N, .rset KS, _, rfl, c2.hn, meth_sdiff, TEs_cons (fun env => rfl) (TE_name (ld_of hsc rfl) (v := .ref st) rfl (TEs_nil (TC_sdiff (xs := [v]) (.inr c2.hn) (by unfold AHeap.items; rw [AHeap.upd_self]; rfl) fun t ht => ?_)))⟩)))
    have hst' : st ≠ t := fun e => by rw [← e, AHeap.upd_self] at ht; cases ht
    have c3 := (c2.change (o := .wset (KS.erase v)) (.none ht)).loc (x := "todo") (v := .ref t) (by decide) (by decide) (by decide)
    refine TSs_cons (TS_while (fun n ρ' H' => ∃ stk td S', n = 2 * td.length + stk.length ∧ CInv ρ' H' E N O es ps KS S' ∧ ρ' "stack" = some (.ref st) ∧ ρ' "todo" = some (.ref t) ∧ H' st = some (.list (stk.map .int)) ∧ H' t = some (.wset td) ∧ Dfs ps KS v stk td S' ∧ S'.Nodup ∧ ∀ x ∈ S, x ∈ S') (2 * (KS.erase v).length + 1)
      ⟨[v], KS.erase v, S, rfl, c3, rfl, rfl, by rw [AHeap.upd_ne _ _ hst', AHeap.upd_self]; rfl, AHeap.upd_self _ _ _, Dfs.start hKN hvK sR, sN, fun x hx => hx⟩ fun n ρ₃ H₃ hW => ?_)
    obtain ⟨stk, td, S', rfl, c4, r_s, r_t, h_s, h_t, dfs, s'N, sub⟩ := hW
    have hneST : st ≠ t := fun e => by rw [e, h_t] at h_s; cases h_s
    have hk5 : ∀ x ∈ KS, 0 ≤ x ∧ x < 5 := fun x hx => by
      obtain ⟨p, hp, rfl⟩ := List.mem_map.mp ((hk' x).mp hx)
      exact (hin p hp).1
    have stl := le5 dfs.stkN fun x hx => hk5 x (dfs.stkK x hx)
    refine TT_val (fun env whole => rfl) (TE_name (ld_of hsc rfl) (v := .ref st) (by exact r_s) (TB_list (xs := stk.map .int) (by unfold AHeap.items; rw [h_s]; rfl) (by simp; omega) ?_))
    have hcc : stk = [] ∨ ∃ r top, stk = r ++ [top] := (List.eq_nil_or_concat stk).imp id fun ⟨r, top, e⟩ => ⟨r, top, by rw [e, List.concat_eq_append]⟩
    rcases hcc with rfl | ⟨r, top, rfl⟩
    · rw [if_neg (by decide)]
      refine TSs_nil (TSs_nil ⟨S', c4, s'N, dfs.sound, fun x hx rg => ?_⟩)
      rw [htk] at hx
      rcases List.mem_append.mp hx with hx | hx
      · exact sub x (sA x hx rg)
      · simp at hx; subst hx
        exact dfs.fin (fun a b hab => (hk' a).mpr (List.mem_map.mpr ⟨_, hab, rfl⟩)) rg
    rw [if_pos (by simp)]
    have hlast : (r ++ [top]).getLast? = some top := by simp
    have htopK : top ∈ KS := dfs.stkK top (by simp)
    obtain ⟨b, hb⟩ := lookup_of_mem ((hk top).mp htopK)
    refine TSs_cons (TS_assign (fun env => rfl) (st_of hsc hro rfl) (TE_idxLast (fun _ _ => rfl) (TE_name (ld_of hsc rfl) (v := .ref st) (by exact r_s) (TE_neg (TE_int ⟨1, rfl, st, (r ++ [top]).map .int, .int top, rfl, rfl, by unfold AHeap.items; rw [h_s]; rfl, by rw [List.getLast?_map, hlast]; rfl, ?_⟩)))))
    have c5 := c4.loc (x := "top") (v := .int top) (by decide) (by decide) (by decide)
    refine TSs_cons (TS_for (fun env x => rfl) (TE_ddidx (fun _ _ => rfl) (TE_name (ld_of hsc rfl) (v := .ref E) (by exact c5.e) (TE_name (ld_of hsc rfl) (v := .int top) rfl ⟨E, top, rfl, rfl, ⟨es, by unfold AHeap.ents; rw [c5.D.at_]; rfl⟩, T2_ddget (by unfold AHeap.ents; rw [c5.D.at_]; rfl) hb ⟨_, _, iter_rset (c5.D.sets _ (lookup_mem' hb)), fun xs hx => ?_⟩⟩))))
    obtain ⟨m2, rfl, hm2⟩ := hx
    have hm2' : ∀ y, y ∈ m2 ↔ (top, y) ∈ ps := fun y => hm2.mem_iff.trans mem_succ
    refine ⟨fun j ρ' H' => ∃ S'', CInv ρ' H' E N O es ps KS S'' ∧ ρ' "stack" = some (.ref st) ∧ ρ' "todo" = some (.ref t) ∧ H' st = some (.list ((r ++ [top]).map .int)) ∧ H' t = some (.wset td) ∧ Dfs ps KS v (r ++ [top]) td S'' ∧ S''.Nodup ∧ (∀ x ∈ S, x ∈ S'') ∧ ∀ y ∈ m2.take j, y ∉ td ∧ (y = v → v ∈ S''),
      ⟨S', c5, by exact r_s, by exact r_t, h_s, h_t, dfs, s'N, sub, (fun y hy => nomatch hy)⟩, fun j ρ' H' h => h.choose_spec.1.D.sets _ (lookup_mem' hb), fun j ρ₄ H₄ y hy hI I2 ob2 => ?_, fun ρ₄ H₄ hI => ?_⟩
    · obtain ⟨y, hy', rfl⟩ := item_int hy
      obtain ⟨S'', c6, r_s, r_t, h_s, h_t, dfs, s''N, sub, seen⟩ := hI
      have hye : (top, y) ∈ ps := (hm2' y).mp (List.mem_of_getElem? hy')
      have htk2 : m2.take (j + 1) = m2.take j ++ [y] := by rw [List.take_add_one, hy']; rfl
      refine TA_name (st_of hsc hro rfl) ?_
      refine TSs_cons (TS.mono (Q := fun f ρ' H' => f = .next ∧ ∃ S3, CInv ρ' H' E N O es ps KS S3 ∧ ρ' "stack" = some (.ref st) ∧ ρ' "todo" = some (.ref t) ∧ ρ' "node" = some (.int y) ∧ H' st = some (.list ((r ++ [top]).map .int)) ∧ H' t = some (.wset td) ∧ Dfs ps KS v (r ++ [top]) td S3 ∧ S3.Nodup ∧ (∀ x ∈ S'', x ∈ S3) ∧ (y = v → v ∈ S3)) ?_ fun f ρ₅ H₅ hpost => ?_)
      · refine TS_if (TT_cmp rfl (TE_name (ld_of hsc rfl) (v := .int y) rfl (TE_name (ld_of hsc rfl) (v := .ref st) (by exact r_s) (T2_in keyedInt (f := AV.int) (ks := r ++ [top]) (by unfold AHeap.items; rw [h_s]; rfl) ⟨_, rfl, ?_⟩))))
        have c7 := c6.loc (x := "node") (v := .int y) (by decide) (by decide) (by decide)
        by_cases q : y ∈ r ++ [top]
        · rw [dt _ q, if_pos rfl]
          obtain ⟨jj, hjl, ej⟩ := List.getElem_of_mem q
          have hj : (r ++ [top])[jj]? = some y := by rw [List.getElem?_eq_getElem hjl, ej]
          have hno : ∀ m, m < jj → (r ++ [top])[m]? ≠ some y := fun m hm e => by
            have := (List.getElem?_inj (i := m) (j := jj) (by omega) dfs.stkN).mp (by rw [e, hj])
            omega
          refine TSs_cons (TS_assign (fun env => rfl) (st_of hsc hro rfl) (TE_cut (fun _ _ => rfl) (TE_name (ld_of hsc rfl) (v := .ref st) (by exact r_s) (TE_meth (fun env => rfl) (fun env => rfl) rfl (fun env => .inr ⟨_, _, rfl, rfl⟩) (TE_name (ld_of hsc rfl) (v := .ref st) (by exact r_s) ⟨st, .list ((r ++ [top]).map .int), _, rfl, h_s, meth_index, TEs_cons (fun env => rfl) (TE_name (ld_of hsc rfl) (v := .int y) rfl (TEs_nil (TC_index keyedInt (f := AV.int) (xs := r ++ [top]) (x := y) (j := jj) (by unfold AHeap.items; rw [h_s]; rfl) (by omega) hj hno
            ⟨jj, rfl, st, (r ++ [top]).map .int, rfl, by unfold AHeap.items; rw [h_s]; rfl, by simp at stl ⊢; omega, fun cr hcr => ?_⟩)))⟩)))))
          have ecut : cut ((r ++ [top]).map AV.int) (some jj) none = ((r ++ [top]).drop jj).map .int := by simp [cut]
          rw [ecut]
          have c8 := (c7.change (o := .list (((r ++ [top]).drop jj).map .int)) (.none hcr)).loc (x := "cyc") (v := .ref cr) (by decide) (by decide) (by decide)
          have hsc_r : st ≠ cr := fun e => by rw [← e, h_s] at hcr; cases hcr
          have htc_r : t ≠ cr := fun e => by rw [← e, h_t] at hcr; cases hcr
          have hOc_r : cr ≠ O := fun e => by rw [e, c7.ho] at hcr; cases hcr
          have hOt : t ≠ O := fun e => by rw [e, c7.ho] at h_t; cases h_t
          have hOs : st ≠ O := fun e => by rw [e, c7.ho] at h_s; cases h_s
          have h_t1 : (H₄.upd cr (.list (((r ++ [top]).drop jj).map .int))) t = some (.wset td) := by rw [AHeap.upd_ne _ _ htc_r]; exact h_t
          refine TSs_cons (TS_expr (fun env => rfl) (TE_meth (fun env => rfl) (fun env => rfl) rfl (fun env => .inr ⟨_, _, rfl, rfl⟩) (TE_name (ld_of hsc rfl) (v := .ref t) (by exact r_t) ⟨t, .wset td, _, rfl, h_t1, meth_sdiffupd, TEs_cons (fun env => rfl) (TE_name (ld_of hsc rfl) (v := .ref cr) rfl (TEs_nil (TC_sdiffupd (xs := (r ++ [top]).drop jj) h_t1 (by unfold AHeap.items; rw [AHeap.upd_self]; rfl) ⟨.inl rfl, ?_⟩)))⟩)))
          rw [erase_all fun x hx => dfs.off x (List.mem_of_mem_drop hx)]
          have c9 := c8.change (o := .wset td) (.wset h_t1)
          have hdl : ((r ++ [top]).drop jj).length ≤ 5 := by rw [List.length_drop]; omega
          have s5 := le5 s''N fun x hx => by obtain ⟨z, hz, _⟩ := (dfs.sound x hx).first; exact (hin _ hz).1
          refine TSs_cons (TS_expr (fun env => rfl) (TE_meth (fun env => rfl) (fun env => rfl) rfl (fun env => .inr ⟨_, _, rfl, rfl⟩) (TE_name (ld_of hsc rfl) (v := .ref O) (by exact c9.o) ⟨O, .iset S'', _, rfl, c9.ho, meth_supdate, TEs_cons (fun env => rfl) (TE_name (ld_of hsc rfl) (v := .ref cr) rfl (TEs_nil (TC_supdate setKI (xs := (r ++ [top]).drop jj) c9.ho (by unfold AHeap.items; rw [AHeap.upd_ne _ _ (Ne.symm htc_r), AHeap.upd_self]; rfl) (fun x hx => hk5 x (dfs.stkK x (List.mem_of_mem_drop hx))) (by omega) ⟨.inl rfl, ?_⟩)))⟩)))
          refine TSs_nil ⟨rfl, _, c9.out, r_s, r_t, rfl, ?_, ?_, dfs.found hlast hye hj, insAll_nodup s''N, fun x hx => mem_insAll.mpr (.inl hx), fun e => mem_insAll.mpr (.inr ?_)⟩
          · rw [AHeap.upd_ne _ _ hOs, AHeap.upd_ne _ _ hneST, AHeap.upd_ne _ _ hsc_r]; exact h_s
          · rw [AHeap.upd_ne _ _ hOt, AHeap.upd_self]
          · rw [← e]
            exact List.mem_of_getElem? (i := 0) (by rw [List.getElem?_drop]; exact hj)
        · rw [df _ q, if_neg (by decide)]
          refine TSs_nil ⟨rfl, S'', c7, by exact r_s, by exact r_t, rfl, h_s, h_t, dfs, s''N, (fun x hx => hx), fun e => ?_⟩
          subst e
          refine absurd ?_ q
          cases r with
          | nil => have := dfs.head top rfl; subst this; simp
          | cons a r' => have := dfs.head a rfl; subst this; simp
      · obtain ⟨rfl, S3, c8, r_s, r_t, r_n, h_s, h_t, dfs, s3N, sub3, last⟩ := hpost
        refine TSs_cons (TS_if (TT_cmp rfl (TE_name (ld_of hsc rfl) (v := .int y) (by exact r_n) (TE_name (ld_of hsc rfl) (v := .ref t) (by exact r_t) (T2_inS (by unfold AHeap.ints; rw [h_t]; rfl) ⟨_, rfl, ?_⟩)))))
        by_cases q : y ∈ td
        · rw [dt _ q, if_pos rfl]
          refine TSs_cons (TS_expr (fun env => rfl) (TE_meth (fun env => rfl) (fun env => rfl) rfl (fun env => .inr ⟨_, _, rfl, rfl⟩) (TE_name (ld_of hsc rfl) (v := .ref st) (by exact r_s) ⟨st, .list ((r ++ [top]).map .int), _, rfl, h_s, meth_append, TEs_cons (fun env => rfl) (TE_name (ld_of hsc rfl) (v := .int y) (by exact r_n) (TEs_nil (TC_append h_s (by simp at stl ⊢; omega) ⟨.inl rfl, ?_⟩)))⟩)))
          have h_t' : (H₅.upd st (.list ((r ++ [top]).map AV.int ++ [.int y]))) t = some (.wset td) := by rw [AHeap.upd_ne _ _ (Ne.symm hneST)]; exact h_t
          refine TSs_cons (TS_expr (fun env => rfl) (TE_meth (fun env => rfl) (fun env => rfl) rfl (fun env => .inr ⟨_, _, rfl, rfl⟩) (TE_name (ld_of hsc rfl) (v := .ref t) (by exact r_t) ⟨t, .wset td, _, rfl, h_t', meth_sremove, TEs_cons (fun env => rfl) (TE_name (ld_of hsc rfl) (v := .int y) (by exact r_n) (TEs_nil (TC_sremove h_t' q ⟨.inl rfl, ?_⟩)))⟩)))
          refine TSs_cons (TS_break (TSs_nil ?_))
          have hlt : 2 * (td.erase y).length + (r ++ [top] ++ [y]).length < 2 * td.length + (r ++ [top]).length := by
            have := List.length_erase_of_mem q
            have := List.length_pos_of_mem q
            simp; omega
          refine ⟨_, hlt, r ++ [top] ++ [y], td.erase y, S3, rfl, (c8.change (.list h_s)).change (.wset h_t'), r_s, r_t, ?_, AHeap.upd_self _ _ _, dfs.push hlast hye q, s3N, fun x hx => sub3 x (sub x hx)⟩
          rw [AHeap.upd_ne _ _ hneST, AHeap.upd_self]; simp
        · rw [df _ q, if_neg (by decide)]
          refine TSs_nil (TSs_nil ⟨S3, c8, r_s, r_t, h_s, h_t, dfs, s3N, fun x hx => sub3 x (sub x hx), fun z hz => ?_⟩)
          rw [htk2] at hz
          rcases List.mem_append.mp hz with hz | hz
          · exact ⟨(seen z hz).1, fun e => sub3 _ ((seen z hz).2 e)⟩
          · simp at hz; subst hz; exact ⟨q, last⟩
    · obtain ⟨S'', c6, r_s, r_t, h_s, h_t, dfs, s''N, sub, seen⟩ := hI
      rw [List.length_map, List.take_length] at seen
      exact TSs_cons (TS_expr (fun env => rfl) (TE_meth (fun env => rfl) (fun env => rfl) rfl (fun env => .inl rfl) (TE_name (ld_of hsc rfl) (v := .ref st) (by exact r_s) ⟨st, .list ((r ++ [top]).map .int), _, rfl, h_s, meth_pop, TEs_nil (TC_pop (xs := r.map .int) (x := .int top) (by rw [h_s, List.map_append]; rfl) (by simp at stl ⊢; omega)
        ⟨.inr (.inr ⟨top, rfl⟩), TSs_nil (TSs_nil ⟨2 * td.length + r.length, by simp, r, td, S'', rfl, c6.change (.list h_s), r_s, r_t, AHeap.upd_self _ _ _, by rw [AHeap.upd_ne _ _ (Ne.symm hneST)]; exact h_t, dfs.pop fun y hy => seen y ((hm2' y).mpr hy), s''N, sub⟩)⟩)⟩)))
  · obtain ⟨S, c, sN, sR, sA⟩ := hI
    rw [List.length_map, List.take_length] at sA
    refine TSs_nil (TSs_cons (TS_ret (TE_name (ld_of hsc rfl) (v := .ref O) (by exact c.o) ⟨S, rfl, c.ho, sN, fun x => ⟨sR x, fun r => sA x ?_ r⟩⟩)))
    obtain ⟨y, hy, _⟩ := r.first
    exact hm.mem_iff.mpr ((hk' x).mpr (List.mem_map.mpr ⟨_, hy, rfl⟩))
theorem cycles_walk {ta : Addr} {ps : List (Int × Int)} (fs : Fns C.G C.gb) (k : C.Ok) (hsc : C.sc = fnS 6) (hro : C.ro = false) (ht : ρ "tuples" = some (.ref ta)) (hT : H ta = some (.ro (ps.map .pair))) (hlen : ps.length < 100)
    (hin : ∀ p ∈ ps, (0 ≤ p.1 ∧ p.1 < 5) ∧ 0 ≤ p.2 ∧ p.2 < 5) :
    TSs C (fnB 6) ρ H fun f ρ' H' => ∃ O S, f = .ret (.ref O) ∧ H' O = some (.iset S) ∧ S.Nodup ∧ ∀ x, x ∈ S ↔ Ring ps x := by
  have hsl : sizeLine = 2 ^ 24 := rfl
  unfold fnB
  refine TSs_cons (TS_assign (fun env => rfl) (st_of hsc hro rfl) (TE_call k (gl_of hsc rfl) fs.dd trivial (fun env => ⟨_, _, rfl, rfl⟩) (TEs_cons (fun env => rfl) (TE_global k (gl_of hsc rfl) fs.set (TEs_nil (TC_ddnew fun E hE => ?_))))))
  have htE : ta ≠ E := fun e => by rw [← e, hT] at hE; cases hE
  refine TSs_cons (TS_for (fun env x => rfl) (TE_name (ld_of hsc rfl) (v := .ref ta) (by exact ht) ⟨_, _, (iter_list (xs := ps.map .pair) (by unfold AHeap.items; rw [AHeap.upd_ne _ _ htE, hT]; rfl)).some, fun xs hx => ?_⟩))
  subst hx
  refine ⟨fun i ρ' H' => ρ' "edges" = some (.ref E) ∧ H' ta = some (.ro (ps.map .pair)) ∧ ∃ es, Built H' E (ps.take i) es,
    ⟨rfl, by rw [AHeap.upd_ne _ _ htE]; exact hT, [], Built.nil⟩, fun i ρ' H' h => by unfold AHeap.items; rw [h.2.1]; rfl, fun i ρ₂ H₂ v hv hI I ob => ?_, fun ρ₂ H₂ hI => ?_⟩
  · obtain ⟨q, hq, rfl⟩ := item_pair hv
    obtain ⟨g1, g2, es, B⟩ := hI
    have hqm : q ∈ ps := List.mem_of_getElem? hq
    have htk : ps.take (i + 1) = ps.take i ++ [q] := by rw [List.take_add_one, hq]; rfl
    have hil : i < ps.length := (List.getElem?_eq_some_iff.mp hq).1
    have hl := B.len
    rw [List.length_take] at hl
    refine TA_tuple (xs := ["parent", "child"]) (fun env => .name (.inr ⟨_, rfl⟩) (.name (.inr ⟨_, rfl⟩) .nil)) (fun env => rfl) (fun y hy => ?_) rfl rfl (fun env => rfl) ?_
    · rcases (by simpa using hy) with rfl | rfl
      · exact st_of hsc hro rfl
      · exact st_of hsc hro rfl
    have up : ∀ y : Str, y ≠ "parent" → y ≠ "child" → (((ρ₂.upd "parent" (.int q.1)).upd "child" (.int q.2)) y) = ρ₂ y := fun y h1 h2 => by rw [Loc.upd_ne _ _ h2, Loc.upd_ne _ _ h1]
    have rp : ((ρ₂.upd "parent" (.int q.1)).upd "child" (.int q.2)) "parent" = some (.int q.1) := by rw [Loc.upd_ne _ _ (by decide)]; exact Loc.upd_self _ _ _
    have r_e := (up "edges" (by decide) (by decide)).trans g1
    refine TSs_cons (TS_expr (fun env => rfl) (TE_meth (fun env => rfl) (fun env => rfl) rfl (fun env => .inr ⟨_, _, rfl, rfl⟩) (TE_ddidx (fun _ _ => rfl) (TE_name (ld_of hsc rfl) (v := .ref E) r_e (TE_name (ld_of hsc rfl) (v := .int q.1) rp
      ⟨E, q.1, rfl, rfl, ⟨es, by unfold AHeap.ents; rw [B.ok.at_]; rfl⟩, T2_dd B.ok (by omega) fun b es' H' d hb he hfr => ⟨b, .iset (succOf (ps.take i) q.1), _, rfl, d.sets _ hb, meth_sadd, TEs_cons (fun env => rfl) (TE_name (ld_of hsc rfl) (v := .int q.2) rfl (TEs_nil (TC_sadd setKI (d.sets _ hb) ?_ (hin q hqm).2 ⟨.inl rfl, TSs_nil ⟨r_e, ?_, es', ?_⟩⟩)))⟩⟩)))))
    · have := le5 (succ_nodup (ps := ps.take i) (k := q.1)) fun y hy => (hin _ (List.mem_of_mem_take (mem_succ.mp hy))).2
      show (succOf (ps.take i) q.1).length < 12
      omega
    · have hbt : ta ≠ b := fun e => by
        have h1 := d.sets _ hb
        have h2 := hfr ta htE (by rw [g2]; exact fun w => nomatch w)
        rw [← show ta = b from e, h2, g2] at h1; cases h1
      rw [AHeap.upd_ne _ _ hbt, hfr ta htE (by rw [g2]; exact fun w => nomatch w)]; exact g2
    · rw [htk]; exact B.snoc d hb he
  obtain ⟨g1, g2, es, B⟩ := hI
  rw [List.length_map, List.take_length] at B
  have hkeys : ∀ x ∈ es.map (·.1), 0 ≤ x ∧ x < 5 := fun x hx => by
    obtain ⟨p, hp, rfl⟩ := List.mem_map.mp ((B.keys x).mp hx)
    exact (hin p hp).1
  have hkl := le5 B.ok.keysN hkeys
  refine TSs_nil (TSs_freeze (L := E :: es.map (·.2)) B.ok.held fun F => ?_)
  have D := B.ok.fz
  have kF := k.holds F
  refine TSs_cons (TS_assign (fun env => rfl) (st_of (C := C.holds F) hsc hro rfl) (TE_call (C := C.holds F) kF (gl_of (C := C.holds F) hsc rfl) fs.set trivial (fun env => ⟨_, _, rfl, rfl⟩) (TEs_cons (fun env => rfl) (TE_name (ld_of (C := C.holds F) hsc rfl) (v := .ref E) (by exact g1) (TEs_nil ?_)))))
  refine TC_set1 setKI (xs := es.map (·.1)) (src := fun H => H E = some (.rdd es)) D.at_ noSet_dd (fun H h => iter_rdd h) D.at_ (fun H a S hne h => by rw [AHeap.upd_ne _ _ (Ne.symm hne)]; exact h) hkeys (by omega) fun N hN => ?_
  have mKS : ∀ x, x ∈ (es.map (·.1)).foldl insI [] ↔ x ∈ es.map (·.1) := fun x => by rw [mem_insAll]; simp
  have nKS : ((es.map (·.1)).foldl insI []).Nodup := insAll_nodup List.nodup_nil
  generalize (es.map (·.1)).foldl insI [] = KS at mKS nKS
  refine TSs_cons (TS_assign (fun env => rfl) (st_of (C := C.holds F) hsc hro rfl) (TE_call0 (C := C.holds F) kF (gl_of (C := C.holds F) hsc rfl) fs.set trivial (TC_set0 setKI fun O hO => ?_)))
  have hNO : N ≠ O := fun e => by rw [← e, AHeap.upd_self] at hO; cases hO
  refine TSs_freeze (L := [N]) (fun b hb => by rw [List.mem_singleton] at hb; subst hb; exact ⟨.iset KS, by rw [AHeap.upd_ne _ _ hNO, AHeap.upd_self]⟩) fun F2 => ?_
  have k2 : ((C.holds F).holds F2).Ok := kF.holds F2
  have hNE : E ≠ N := fun e => by rw [← e, D.at_] at hN; cases hN
  have hEO : E ≠ O := fun e => by rw [← e, AHeap.upd_ne _ _ hNE, D.at_] at hO; cases hO
  have hpN : ∀ p ∈ es, p.2 ≠ N := fun p hp e => by rw [← e, D.sets p hp] at hN; cases hN
  have hpO : ∀ p ∈ es, p.2 ≠ O := fun p hp e => by rw [← e, AHeap.upd_ne _ _ (hpN p hp), D.sets p hp] at hO; cases hO
  have cold : ∀ b, b ≠ N → b ≠ O → ((((H₂.fz (E :: es.map (·.2))).upd N (.iset KS)).upd O (.iset [])).fz [N]) b = (H₂.fz (E :: es.map (·.2))) b := fun b h1 h2 => by
    rw [AHeap.fz_out (by simpa using h1), AHeap.upd_ne _ _ h2, AHeap.upd_ne _ _ h1]
  refine (cyc_search (E := E) (N := N) (O := O) (es := es) (ps := ps) (KS := KS) k2 hsc hro ⟨by exact g1, rfl, rfl, ⟨(cold E hNE hEO).trans D.at_, D.keysN, fun p hp => (cold p.2 (hpN p hp) (hpO p hp)).trans (D.sets p hp), D.off⟩, ?_, ?_⟩ mKS (fun x => (mKS x).trans (B.keys x)) nKS hin).mono fun f ρ' H' ⟨S, e, h1, h2, h3⟩ => ⟨O, S, e, ?_, h2, h3⟩
  · rw [AHeap.fz_in (o := .iset KS) (by simp) (by rw [AHeap.upd_ne _ _ hNO, AHeap.upd_self])]; rfl
  · rw [AHeap.fz_out (by simpa using Ne.symm hNO), AHeap.upd_self]
  · have hOL : O ∉ E :: es.map (·.2) := fun q => by
      rcases List.mem_cons.mp q with q | q
      · exact hEO q.symm
      · obtain ⟨p, hp, e⟩ := List.mem_map.mp q
        exact hpO p hp e
    unfold AHeap.without
    rw [if_neg hOL, if_neg (by simpa using Ne.symm hNO)]
    exact h1
/-- find_cycles(tuples, allitems) -/
theorem TC_cycles {f : Value} {ta : Addr} {v : AV} {ps : List (Int × Int)} {Q : AV → AHeap → Prop} (F : FnAt C.gb f 6 ["tuples", "allitems"]) (fs : Fns C.G C.gb) (k : C.Ok) (hr : 0 < C.room) (hp : H.items ta = some (ps.map .pair)) (hlen : ps.length < 100)
    (hin : ∀ p ∈ ps, (0 ≤ p.1 ∧ p.1 < 5) ∧ 0 ≤ p.2 ∧ p.2 < 5) (hq : ∀ r S, H r = none → S.Nodup → (∀ x, x ∈ S ↔ Ring ps x) → Q (.ref r) (H.upd r (.iset S))) : TC C f [.ref ta, v] H Q := by
  refine TC_fn F k hr rfl rfl rfl rfl rfl fun C' k' hsc hro hG hgb hrm _ _ => ?_
  refine (cycles_walk (by rw [hG, hgb]; exact fs) k' hsc hro rfl (fz_list hp) hlen hin).mono fun f ρ' H' ⟨O, S, e, h1, h2, h3⟩ => ?_
  rw [e]
  exact ⟨.ref O, [O], .inl rfl, (fun b hb => by rw [List.mem_singleton] at hb; subst hb; exact ⟨_, h1, rfl⟩), fun hn => by rw [adopt_one h1]; exact hq O S (hn O (by simp)) h2 h3⟩
end
end Mine
end
section
open PySem PySem.W PyProof.Rows PySem.SeqAt
set_option maxRecDepth 10000
set_option autoImplicit false
set_option linter.unusedVariables false
namespace Mine
/-- where j comes among the rising ones -/
theorem go_spec {xs : Array Nat} (hr : xs.toList.Pairwise (· < ·)) (j : Nat) : ∀ (fuel lo hi : Nat), lo ≤ hi → hi ≤ xs.size → hi - lo ≤ fuel → (∀ i x, i < lo → xs[i]? = some x → x < j) → (∀ i x, hi ≤ i → xs[i]? = some x → j ≤ x) →
    SetTable.below.go xs j fuel lo hi ≤ xs.size ∧ (∀ i x, i < SetTable.below.go xs j fuel lo hi → xs[i]? = some x → x < j) ∧ (∀ i x, SetTable.below.go xs j fuel lo hi ≤ i → xs[i]? = some x → j ≤ x)
  | 0, lo, hi, h1, h2, h3, h4, h5 => by
    unfold SetTable.below.go
    exact ⟨by omega, h4, fun i x hi' => h5 i x (by omega)⟩
  | fuel + 1, lo, hi, h1, h2, h3, h4, h5 => by
    unfold SetTable.below.go
    have mono : ∀ a b x y, a ≤ b → xs[a]? = some x → xs[b]? = some y → x ≤ y := fun a b x y hab ha hb => by
      rcases Nat.lt_or_ge a b with q | q
      · rw [← Array.getElem?_toList] at ha hb
        obtain ⟨la, ea⟩ := List.getElem?_eq_some_iff.mp ha
        obtain ⟨lb, eb⟩ := List.getElem?_eq_some_iff.mp hb
        have := List.pairwise_iff_getElem.mp hr a b la lb q
        omega
      · have : a = b := Nat.le_antisymm hab q
        subst this; rw [ha] at hb; cases hb; exact Nat.le_refl _
    by_cases hlt : lo < hi
    · rw [if_pos hlt]
      dsimp only
      have hm : (lo + hi) / 2 < xs.size := by omega
      have hg : xs[(lo + hi) / 2]? = some (xs[(lo + hi) / 2]) := Array.getElem?_eq_getElem hm
      have hd : xs.getD ((lo + hi) / 2) j = xs[(lo + hi) / 2] := by rw [Array.getD_eq_getD_getElem?, hg]; rfl
      rw [hd]
      by_cases hc : xs[(lo + hi) / 2] < j
      · rw [if_pos hc]
        exact go_spec hr j fuel _ _ (by omega) h2 (by omega) (fun i x hi' hx => Nat.lt_of_le_of_lt (mono i _ x _ (by omega) hx hg) hc) h5
      · rw [if_neg hc]
        exact go_spec hr j fuel _ _ (by omega) (by omega) (by omega) h4 fun i x hi' hx => Nat.le_trans (Nat.le_of_not_lt hc) (mono _ i _ x (by omega) hg hx)
    · rw [if_neg hlt]
      exact ⟨by omega, h4, fun i x hi' => h5 i x (by omega)⟩
theorem below_spec {xs : Array Nat} (hr : xs.toList.Pairwise (· < ·)) (j : Nat) :
    SetTable.below xs j ≤ xs.size ∧ (∀ i x, i < SetTable.below xs j → xs[i]? = some x → x < j) ∧ (∀ i x, SetTable.below xs j ≤ i → xs[i]? = some x → j ≤ x) :=
  go_spec hr j _ _ _ (Nat.zero_le _) (Nat.le_refl _) (by omega) (fun i x h => by omega) fun i x h e => by rw [Array.getElem?_eq_none h] at e; cases e
theorem below_at {xs : Array Nat} (hr : xs.toList.Pairwise (· < ·)) {i j : Nat} (h : xs[i]? = some j) : SetTable.below xs j = i := by
  obtain ⟨h1, h2, h3⟩ := below_spec hr j
  have hil : i < xs.size := (Array.getElem?_eq_some_iff.mp h).1
  rcases Nat.lt_trichotomy (SetTable.below xs j) i with q | q | q
  · have hg : xs[SetTable.below xs j]? = some (xs[SetTable.below xs j]) := Array.getElem?_eq_getElem (by omega)
    have := h3 _ _ (Nat.le_refl _) hg
    rw [← Array.getElem?_toList] at h hg
    obtain ⟨la, ea⟩ := List.getElem?_eq_some_iff.mp hg
    obtain ⟨lb, eb⟩ := List.getElem?_eq_some_iff.mp h
    have := List.pairwise_iff_getElem.mp hr _ i la lb q
    omega
  · exact q
  · have := h2 i j q h; omega
/-- which slot is which -/
theorem slot_live {t : SetTable} (hr : t.place.toList.Pairwise (· < ·)) {i j : Nat} (h : t.place[i]? = some j) : t.slot j = .live i := by
  unfold SetTable.slot
  dsimp only
  rw [below_at hr h, h]
  simp
theorem slot_empty {t : SetTable} (hd : t.dummies = #[]) {j : Nat} (h : j ∉ t.place.toList) : t.slot j = .empty := by
  unfold SetTable.slot
  dsimp only
  rw [hd]
  have h1 : (t.place[SetTable.below t.place j]? == some j) = false := by
    refine Bool.eq_false_iff.mpr fun q => h ?_
    have q' : t.place[SetTable.below t.place j]? = some j := by simpa using q
    rw [← Array.getElem?_toList] at q'
    exact List.mem_of_getElem? q'
  have h2 : SetTable.has #[] j = false := rfl
  rw [h1, h2]
  rfl
end Mine
end
section
open PySem PySem.W PyProof.Rows PySem.SeqAt
set_option maxRecDepth 10000
set_option autoImplicit false
set_option linter.unusedVariables false
namespace Mine
/-! the hashes of the pairs of ints below 5 -/
def pairs25 : List (Int × Int) := five.flatMap fun a => five.map fun b => (a, b)
theorem mem25 {p : Int × Int} (h : Low5 p) : p ∈ pairs25 := by
  obtain ⟨a, b⟩ := p
  obtain ⟨⟨h1, h2⟩, h3, h4⟩ := h
  have ha := mem5 (k := a) ⟨h1, h2⟩
  have hb := mem5 (k := b) ⟨h3, h4⟩
  exact List.mem_flatMap.mpr ⟨a, ha, List.mem_map.mpr ⟨b, hb, rfl⟩⟩
theorem pairHash_inj {p q : Int × Int} (hp : Low5 p) (hq : Low5 q) (h : pairHash p = pairHash q) : p = q := by
  have : ∀ p ∈ pairs25, ∀ q ∈ pairs25, pairHash p = pairHash q → p = q := by decide +kernel
  exact this p (mem25 hp) q (mem25 hq) h
def lookL (mask : Nat) : Nat → SetTable.Probe → List Nat
  | 0, _ => []
  | n + 1, p => p.j :: lookL mask n (SetTable.advance { SetTable.fresh 0 0 false with mask } p)
theorem lookL_get (mask : Nat) (h : Int) : ∀ (n m k : Nat), k < n → (lookL mask n (look mask h m))[k]? = some (look mask h (m + k)).j
  | 0, _, _, hk => absurd hk (Nat.not_lt_zero _)
  | n + 1, m, 0, _ => rfl
  | n + 1, m, k + 1, hk => by
    have := lookL_get mask h n (m + 1) k (by omega)
    rw [show m + 1 + k = m + (k + 1) from by omega] at this
    exact this
theorem lookL_length (mask : Nat) : ∀ (n : Nat) (p : SetTable.Probe), (lookL mask n p).length = n
  | 0, _ => rfl
  | n + 1, p => by simp [lookL, lookL_length mask n]
def looks40 (mask : Nat) (h : Int) : List Nat := lookL mask 40 (look mask h 0)
def nubN : List Nat → List Nat
  | [] => []
  | x :: xs => x :: (nubN xs).filter (· != x)
theorem mem_nubN : ∀ {l : List Nat} {y : Nat}, y ∈ nubN l → y ∈ l
  | [], _, h => h
  | x :: xs, y, h => by
    unfold nubN at h
    rcases List.mem_cons.mp h with rfl | h
    · exact List.mem_cons_self
    · exact List.mem_cons_of_mem _ (mem_nubN (List.mem_filter.mp h).1)
theorem nubN_nodup : ∀ l : List Nat, (nubN l).Nodup
  | [] => List.nodup_nil
  | x :: xs => by
    unfold nubN
    refine List.nodup_cons.mpr ⟨fun h => ?_, (nubN_nodup xs).filter _⟩
    have := (List.mem_filter.mp h).2
    simp at this
theorem looks_good : ∀ p ∈ pairs25, ((looks40 7 (pairHash p)).all (· ≤ 7) && decide (8 ≤ (nubN (looks40 7 (pairHash p))).length)) = true ∧ ((looks40 31 (pairHash p)).all (· ≤ 31) && decide (16 ≤ (nubN (looks40 31 (pairHash p))).length)) = true := by decide +kernel
theorem len_le_of_sub : ∀ {l m : List Nat}, l.Nodup → (∀ x ∈ l, x ∈ m) → l.length ≤ m.length
  | [], _, _, _ => Nat.zero_le _
  | x :: xs, m, hn, hs => by
    obtain ⟨h1, h2⟩ := List.nodup_cons.mp hn
    have hx : x ∈ m := hs x List.mem_cons_self
    have : xs.length ≤ (m.erase x).length := len_le_of_sub h2 fun y hy => by
      have hyx : y ≠ x := fun e => h1 (e ▸ hy)
      exact (List.mem_erase_of_ne hyx).mpr (hs y (List.mem_cons_of_mem _ hy))
    rw [List.length_erase_of_mem hx] at this
    have := List.length_pos_of_mem hx
    simp only [List.length_cons]; omega
/-- a free slot is met -/
theorem free_look {mask : Nat} {p : Int × Int} {place : List Nat} (hp : Low5 p) (hm : (mask = 7 ∧ place.length < 5) ∨ (mask = 31 ∧ place.length < 16)) :
    ∃ k, k < 40 ∧ (look mask (pairHash p) k).j ∉ place ∧ (look mask (pairHash p) k).j ≤ mask ∧ ∀ m, m < k → (look mask (pairHash p) m).j ∈ place := by
  have hg := looks_good p (mem25 hp)
  have key : ∃ n : Nat, place.length < n ∧ ((looks40 mask (pairHash p)).all (· ≤ mask) && decide (n ≤ (nubN (looks40 mask (pairHash p))).length)) = true := by
    rcases hm with ⟨rfl, h⟩ | ⟨rfl, h⟩
    · exact ⟨8, by omega, hg.1⟩
    · exact ⟨16, h, hg.2⟩
  obtain ⟨n, hn, hk⟩ := key
  simp only [Bool.and_eq_true, decide_eq_true_eq, List.all_eq_true] at hk
  obtain ⟨hle, hlen⟩ := hk
  have ex : ∃ k, k < 40 ∧ (look mask (pairHash p) k).j ∉ place := by
    refine Classical.byContradiction fun hno => ?_
    have all : ∀ x ∈ nubN (looks40 mask (pairHash p)), x ∈ place := fun x hx => by
      obtain ⟨i, hi⟩ := List.getElem?_of_mem (mem_nubN hx)
      have hil : i < 40 := by
        have := (List.getElem?_eq_some_iff.mp hi).1
        unfold looks40 at this
        rwa [lookL_length] at this
      unfold looks40 at hi
      rw [lookL_get mask _ 40 0 i hil, Nat.zero_add] at hi
      rw [← Option.some.inj hi]
      exact Classical.byContradiction fun q => hno ⟨i, hil, q⟩
    have := len_le_of_sub (nubN_nodup _) all
    omega
  have first : ∀ n k, k ≤ n → (look mask (pairHash p) k).j ∉ place → ∃ k', k' ≤ k ∧ (look mask (pairHash p) k').j ∉ place ∧ ∀ m, m < k' → (look mask (pairHash p) m).j ∈ place := fun n => by
    induction n with
    | zero => intro k hk h; exact ⟨k, Nat.le_refl _, h, fun m hm => by omega⟩
    | succ n ih =>
      intro k hk h
      by_cases hb : ∃ m, m < k ∧ (look mask (pairHash p) m).j ∉ place
      · obtain ⟨m, hm, h'⟩ := hb
        obtain ⟨k', h1, h2, h3⟩ := ih m (by omega) h'
        exact ⟨k', by omega, h2, h3⟩
      · exact ⟨k, Nat.le_refl _, h, fun m hm => Classical.byContradiction fun q => hb ⟨m, hm, q⟩⟩
  obtain ⟨k, hk, h⟩ := ex
  obtain ⟨k', h1, h2, h3⟩ := first k k (Nat.le_refl _) h
  refine ⟨k', by omega, h2, ?_, h3⟩
  have hm' : (look mask (pairHash p) k').j ∈ looks40 mask (pairHash p) := by
    refine List.mem_of_getElem? (i := k') ?_
    unfold looks40
    rw [lookL_get mask _ 40 0 k' (by omega), Nat.zero_add]
  simpa using hle _ hm'
/-! the search -/
theorem advance_mask (t : SetTable) (p : SetTable.Probe) : t.advance p = SetTable.advance { SetTable.fresh 0 0 false with mask := t.mask } p := rfl
theorem look_dummy (mask : Nat) (h : Int) : ∀ k, (look mask h k).dummy = none
  | 0 => rfl
  | k + 1 => by
    show (SetTable.advance _ (look mask h k)).dummy = none
    unfold SetTable.advance
    split
    · exact look_dummy mask h k
    · exact look_dummy mask h k
theorem probe_go {t : SetTable} {hashAt : Nat → Int} {h : Int} {hs : List Int} (hr : t.place.toList.Pairwise (· < ·)) (hd : t.dummies = #[]) {k : Nat}
    (hno : ∀ m, m < k → ∃ i, t.place[i]? = some (look t.mask h m).j ∧ hashAt i ≠ h) :
    ∀ (d : Nat) (m : Nat) (fuel : Nat), m + d = k → d < fuel →
      SetTable.probe.go t hashAt h fuel (look t.mask h m) = SetTable.probe.go t hashAt h (fuel - d) (look t.mask h k)
  | 0, m, fuel, e, _ => by rw [Nat.add_zero] at e; rw [e]; rfl
  | d + 1, m, fuel, e, hf => by
    obtain ⟨f, rfl⟩ : ∃ f, fuel = f + 1 := ⟨fuel - 1, by omega⟩
    obtain ⟨i, hi, hne⟩ := hno m (by omega)
    have : SetTable.probe.go t hashAt h (f + 1) (look t.mask h m) = SetTable.probe.go t hashAt h f (look t.mask h (m + 1)) := by
      conv => lhs; unfold SetTable.probe.go
      rw [slot_live hr hi]
      dsimp only
      rw [if_neg (by simpa using hne)]
      rfl
    rw [this, probe_go (hs := hs) hr hd hno d (m + 1) f (by omega) (by omega)]
    congr 1
    omega
theorem start_look (t : SetTable) (h : Int) : t.probeStart h = look t.mask h 0 := rfl
theorem PTab.big {t : SetTable} {hs : List Int} (P : PTab t hs) : 41 < 10 * SetTable.turns t.mask := by
  have : SetTable.turns t.mask = t.mask + 15 := rfl
  rcases P.mask with ⟨h, _⟩ | ⟨h, _⟩ <;> omega
theorem PTab.lt {t : SetTable} {hs : List Int} (P : PTab t hs) {i : Nat} {j : Nat} (h : t.place[i]? = some j) : i < hs.length := by
  have := (Array.getElem?_eq_some_iff.mp h).1
  rw [P.size] at this; exact this
theorem place_inj {t : SetTable} (hr : t.place.toList.Pairwise (· < ·)) {i i' j : Nat} (h : t.place[i]? = some j) (h' : t.place[i']? = some j) : i = i' := by
  rw [← below_at hr h, below_at hr h']
/-- one that is there is found -/
theorem PTab.found {t : SetTable} {hs : List Int} (P : PTab t hs) (hn : hs.Nodup) {i : Nat} {h : Int} (hi : hs[i]? = some h) {hashAt : Nat → Int} (hh : ∀ i x, hs[i]? = some x → hashAt i = x) :
    ∃ j nx, t.probe hashAt h (t.probeStart h) = some (.candidate j i nx) := by
  obtain ⟨k, hk, hp, hb⟩ := P.way i h hi
  have hno : ∀ m, m < k → ∃ i', t.place[i']? = some (look t.mask h m).j ∧ (hashAt i' ≠ h ∨ i' = i) := fun m hm => by
    obtain ⟨i', hi'⟩ := List.getElem?_of_mem (hb m hm)
    rw [Array.getElem?_toList] at hi'
    refine ⟨i', hi', ?_⟩
    by_cases q : i' = i
    · exact .inr q
    · refine .inl fun e => q ?_
      have hl := P.lt hi'
      have hx := List.getElem?_eq_getElem hl
      rw [hh _ _ hx] at e
      rw [e] at hx
      exact (List.getElem?_inj hl hn).mp (hx.trans hi.symm)
  -- the first look at its slot
  have first : ∀ n k, k ≤ n → (∀ m, m < k → ∃ i', t.place[i']? = some (look t.mask h m).j ∧ (hashAt i' ≠ h ∨ i' = i)) → k < 40 → t.place[i]? = some (look t.mask h k).j →
      ∃ k', k' < 40 ∧ t.place[i]? = some (look t.mask h k').j ∧ ∀ m, m < k' → ∃ i', t.place[i']? = some (look t.mask h m).j ∧ hashAt i' ≠ h := fun n => by
    induction n with
    | zero => intro k hk _ h40 h0; exact ⟨k, h40, h0, fun m hm => by omega⟩
    | succ n ih =>
      intro k hk hall h40 h0
      by_cases hb : ∃ m, m < k ∧ t.place[i]? = some (look t.mask h m).j
      · obtain ⟨m, hm, h'⟩ := hb
        exact ih m (by omega) (fun m' hm' => hall m' (by omega)) (by omega) h'
      · refine ⟨k, h40, h0, fun m hm => ?_⟩
        obtain ⟨i', h1, h2⟩ := hall m hm
        refine ⟨i', h1, h2.resolve_right fun e => hb ⟨m, hm, e ▸ h1⟩⟩
  obtain ⟨k', h40, h0, hall⟩ := first k k (Nat.le_refl _) hno hk hp
  have hbig := P.big
  unfold SetTable.probe
  rw [start_look, probe_go (hs := hs) P.rising P.dum hall k' 0 _ (by omega) (by omega)]
  obtain ⟨f, hf⟩ : ∃ f, 10 * SetTable.turns t.mask - k' = f + 1 := ⟨10 * SetTable.turns t.mask - k' - 1, by omega⟩
  rw [hf]
  unfold SetTable.probe.go
  rw [slot_live P.rising h0]
  dsimp only
  rw [if_pos (by simpa using hh _ _ hi)]
  exact ⟨_, _, rfl⟩
/-- one that is not there meets a free slot -/
theorem PTab.absent {t : SetTable} {hs : List Int} (P : PTab t hs) {p : Int × Int} (hp : Low5 p) (hi : pairHash p ∉ hs) {hashAt : Nat → Int} (hh : ∀ i x, hs[i]? = some x → hashAt i = x)
    (hlen : (t.mask = 7 ∧ hs.length < 5) ∨ (t.mask = 31 ∧ hs.length < 16)) :
    ∃ k, k < 40 ∧ (look t.mask (pairHash p) k).j ∉ t.place.toList ∧ (look t.mask (pairHash p) k).j ≤ t.mask ∧ (∀ m, m < k → (look t.mask (pairHash p) m).j ∈ t.place.toList) ∧
      t.probe hashAt (pairHash p) (t.probeStart (pairHash p)) = some (.empty (look t.mask (pairHash p) k).j none) := by
  have hpl : t.place.toList.length = hs.length := by rw [Array.length_toList]; exact P.size
  obtain ⟨k, hk, h1, h2, h3⟩ := free_look (place := t.place.toList) hp (by rw [hpl]; exact hlen)
  refine ⟨k, hk, h1, h2, h3, ?_⟩
  have hno : ∀ m, m < k → ∃ i, t.place[i]? = some (look t.mask (pairHash p) m).j ∧ hashAt i ≠ pairHash p := fun m hm => by
    obtain ⟨i', hi'⟩ := List.getElem?_of_mem (h3 m hm)
    rw [Array.getElem?_toList] at hi'
    refine ⟨i', hi', fun e => hi ?_⟩
    have hl := P.lt hi'
    have hx := List.getElem?_eq_getElem hl
    rw [hh _ _ hx] at e
    rw [e] at hx
    exact List.mem_of_getElem? hx
  have hbig := P.big
  unfold SetTable.probe
  rw [start_look, probe_go (hs := hs) P.rising P.dum hno k 0 _ (by omega) (by omega)]
  obtain ⟨f, hf⟩ : ∃ f, 10 * SetTable.turns t.mask - k = f + 1 := ⟨10 * SetTable.turns t.mask - k - 1, by omega⟩
  rw [hf]
  unfold SetTable.probe.go
  rw [slot_empty P.dum h1]
  dsimp only
  rw [look_dummy]
end Mine
end
section
open PySem PySem.W PyProof.Rows PySem.SeqAt
set_option maxRecDepth 10000
set_option autoImplicit false
set_option linter.unusedVariables false
namespace Mine
theorem rising_ins {l : List Nat} (h : l.Pairwise (· < ·)) {p j : Nat} (hp : p ≤ l.length) (h1 : ∀ i x, i < p → l[i]? = some x → x < j) (h2 : ∀ i x, p ≤ i → l[i]? = some x → j < x) :
    (l.take p ++ j :: l.drop p).Pairwise (· < ·) := by
  refine List.pairwise_append.mpr ⟨h.sublist (List.take_sublist _ _), List.pairwise_cons.mpr ⟨fun x hx => ?_, h.sublist (List.drop_sublist _ _)⟩, fun a ha b hb => ?_⟩
  · obtain ⟨i, hi⟩ := List.getElem?_of_mem hx
    rw [List.getElem?_drop] at hi
    exact h2 _ x (by omega) hi
  · obtain ⟨i, hi⟩ := List.getElem?_of_mem ha
    have hil : i < p := by
      have := (List.getElem?_eq_some_iff.mp hi).1
      simp only [List.length_take] at this; omega
    rw [List.getElem?_take_of_lt hil] at hi
    have haj := h1 i a hil hi
    rcases List.mem_cons.mp hb with rfl | hb
    · exact haj
    · obtain ⟨i', hi'⟩ := List.getElem?_of_mem hb
      rw [List.getElem?_drop] at hi'
      exact Nat.lt_trans haj (h2 _ b (by omega) hi')
theorem ins_get_lt {α : Type} {l : List α} {p i : Nat} {x : α} (hi : i < p) (hp : p ≤ l.length) : (l.take p ++ x :: l.drop p)[i]? = l[i]? := by
  rw [List.getElem?_append_left (by simp; omega), List.getElem?_take_of_lt hi]
theorem ins_get_at {α : Type} {l : List α} {p : Nat} {x : α} (hp : p ≤ l.length) : (l.take p ++ x :: l.drop p)[p]? = some x := by
  rw [List.getElem?_append_right (by simp; omega)]
  simp [Nat.min_eq_left hp]
theorem ins_get_gt {α : Type} {l : List α} {p i : Nat} {x : α} (hi : p < i) (hp : p ≤ l.length) : (l.take p ++ x :: l.drop p)[i]? = l[i - 1]? := by
  rw [List.getElem?_append_right (by simp; omega)]
  simp only [List.length_take, Nat.min_eq_left hp]
  rw [show i - p = (i - p - 1) + 1 from by omega, List.getElem?_cons_succ, List.getElem?_drop]
  congr 1; omega
/-- a free slot is taken -/
theorem PTab.put {t : SetTable} {hs : List Int} (P : PTab t hs) {h : Int} {k : Nat} (hk : k < 40) (hj : (look t.mask h k).j ∉ t.place.toList) (hle : (look t.mask h k).j ≤ t.mask) (hb : ∀ m, m < k → (look t.mask h m).j ∈ t.place.toList) :
    (SetTable.below t.place (look t.mask h k).j ≤ hs.length) ∧ (t.put (look t.mask h k).j) = ({ t with place := SetTable.insertAt t.place (SetTable.below t.place (look t.mask h k).j) (look t.mask h k).j }, SetTable.below t.place (look t.mask h k).j) ∧
    ((t.mask = 7 ∧ hs.length < 4) ∨ (t.mask = 31 ∧ hs.length < 15) → PTab { t with place := SetTable.insertAt t.place (SetTable.below t.place (look t.mask h k).j) (look t.mask h k).j }
      (hs.take (SetTable.below t.place (look t.mask h k).j) ++ h :: hs.drop (SetTable.below t.place (look t.mask h k).j))) := by
  generalize hjj : (look t.mask h k).j = j at *
  obtain ⟨b1, b2, b3⟩ := below_spec P.rising j
  generalize hp : SetTable.below t.place j = p at *
  have hpl : p ≤ hs.length := by rw [← P.size]; exact b1
  have b3' : ∀ i x, p ≤ i → t.place[i]? = some x → j < x := fun i x h1 h2 => by
    have := b3 i x h1 h2
    rcases Nat.lt_or_eq_of_le this with q | q
    · exact q
    · subst q
      rw [← Array.getElem?_toList] at h2
      exact absurd (List.mem_of_getElem? h2) hj
  refine ⟨hpl, ?_, fun hlen => ?_⟩
  · unfold SetTable.put
    rw [P.dum]
    dsimp only
    rw [hp, show SetTable.has #[] j = false from rfl]
    simp
  · have pl : p ≤ t.place.toList.length := by rw [Array.length_toList]; exact b1
    have eL : (SetTable.insertAt t.place p j).toList = t.place.toList.take p ++ j :: t.place.toList.drop p := SetTable.toList_insertAt t.place p j
    have tl : ∀ x, x ∈ (SetTable.insertAt t.place p j).toList ↔ x = j ∨ x ∈ t.place.toList := fun x => by
      rw [eL]
      have : (t.place.toList.take p ++ j :: t.place.toList.drop p).Perm (j :: t.place.toList) := by
        refine List.perm_middle.trans ?_
        rw [List.take_append_drop]
      rw [this.mem_iff, List.mem_cons]
    refine ⟨?_, ?_, P.dum, ?_, fun x hx => ?_, P.plain, fun i x hx => ?_⟩
    · show (SetTable.insertAt t.place p j).size = _
      rw [← Array.length_toList, eL]
      simp only [List.length_append, List.length_take, List.length_cons, List.length_drop]
      have := P.size
      rw [Array.length_toList] at pl ⊢
      omega
    · show (SetTable.insertAt t.place p j).toList.Pairwise _
      rw [eL]
      exact rising_ins P.rising pl (fun i x h1 h2 => b2 i x h1 (by rwa [Array.getElem?_toList] at h2)) fun i x h1 h2 => b3' i x h1 (by rwa [Array.getElem?_toList] at h2)
    · show (t.mask = 7 ∧ _) ∨ (t.mask = 31 ∧ _)
      simp only [List.length_append, List.length_take, List.length_cons, List.length_drop]
      rcases hlen with ⟨h1, h2⟩ | ⟨h1, h2⟩
      · exact .inl ⟨h1, by omega⟩
      · exact .inr ⟨h1, by omega⟩
    · rcases (tl x).mp hx with rfl | hx
      · exact hle
      · exact P.below x hx
    · show ∃ k, k < 40 ∧ (SetTable.insertAt t.place p j)[i]? = some (look t.mask x k).j ∧ ∀ m, m < k → (look t.mask x m).j ∈ (SetTable.insertAt t.place p j).toList
      have g : (SetTable.insertAt t.place p j)[i]? = (t.place.toList.take p ++ j :: t.place.toList.drop p)[i]? := by rw [← eL, Array.getElem?_toList]
      rcases Nat.lt_trichotomy i p with q | q | q
      · rw [ins_get_lt q hpl] at hx
        obtain ⟨k', h1, h2, h3⟩ := P.way i x hx
        exact ⟨k', h1, by rw [g, ins_get_lt q pl, Array.getElem?_toList]; exact h2, fun m hm => (tl _).mpr (.inr (h3 m hm))⟩
      · subst q
        rw [ins_get_at hpl] at hx
        cases hx
        exact ⟨k, hk, by rw [g, ins_get_at pl, hjj], fun m hm => (tl _).mpr (.inr (hb m hm))⟩
      · rw [ins_get_gt q hpl] at hx
        obtain ⟨k', h1, h2, h3⟩ := P.way (i - 1) x hx
        exact ⟨k', h1, by rw [g, ins_get_gt q pl, Array.getElem?_toList]; exact h2, fun m hm => (tl _).mpr (.inr (h3 m hm))⟩
/-! a table laid clean -/
theorem find_range {f : Nat → Bool} : ∀ (n : Nat) {k : Nat}, (List.range n).find? f = some k → k < n ∧ f k = true ∧ ∀ m, m < k → f m = false := fun n k h => by
  obtain ⟨h1, h2⟩ := List.find?_range_eq_some.mp h
  exact ⟨by simpa using h2.1, h1, fun m hm => by simpa using h2.2 m hm⟩

def RunAt (mask : Nat) (h : Int) (m i pt : Nat) : Prop := look mask h m = { j := i, more := SetTable.runEnd mask i - i, i, perturb := pt, dummy := none }
theorem runEnd_le (mask i : Nat) : i ≤ SetTable.runEnd mask i := by unfold SetTable.runEnd; split <;> omega
theorem RunAt.start (mask : Nat) (h : Int) : RunAt mask h 0 (SetTable.bits h % (mask + 1)) (SetTable.bits h) := rfl
theorem RunAt.inside {mask : Nat} {h : Int} {m i pt : Nat} (r : RunAt mask h m i pt) : ∀ k, k ≤ SetTable.runEnd mask i - i →
    look mask h (m + k) = { j := i + k, more := SetTable.runEnd mask i - i - k, i, perturb := pt, dummy := none }
  | 0, _ => r
  | k + 1, hk => by
    have ih := r.inside k (by omega)
    show SetTable.advance _ (look mask h (m + k)) = _
    rw [ih]
    unfold SetTable.advance
    dsimp only
    rw [if_pos (by omega)]
    congr 1
theorem RunAt.next {mask : Nat} {h : Int} {m i pt : Nat} (r : RunAt mask h m i pt) : RunAt mask h (m + (SetTable.runEnd mask i - i) + 1) (SetTable.leap mask i pt).1 (SetTable.leap mask i pt).2 := by
  have ih := r.inside _ (Nat.le_refl _)
  show SetTable.advance _ (look mask h (m + (SetTable.runEnd mask i - i))) = _
  rw [ih]
  unfold SetTable.advance
  dsimp only
  rw [if_neg (by omega)]
def Fr' (O : Array (Option Nat)) (j : Nat) : Bool := (O.getD j (some 0)).isNone
theorem free_spec {O : Array (Option Nat)} {mask : Nat} {h : Int} : ∀ (fuel m i pt : Nat), RunAt mask h m i pt → (∃ K, K < fuel ∧ Fr' O (look mask h (m + K)).j = true) →
    ∃ k, SetTable.layClean.free mask O fuel i pt = some (look mask h (m + k)).j ∧ Fr' O (look mask h (m + k)).j = true ∧ ∀ k', k' < k → Fr' O (look mask h (m + k')).j = false
  | 0, m, i, pt, r, ⟨K, hK, _⟩ => by omega
  | fuel + 1, m, i, pt, r, ⟨K, hK, hf⟩ => by
    have hle := runEnd_le mask i
    unfold SetTable.layClean.free
    cases q : (List.range (SetTable.runEnd mask i + 1 - i)).find? fun k => (O.getD (i + k) (some 0)).isNone with
    | some k =>
      obtain ⟨h1, h2, h3⟩ := find_range _ q
      have hj := r.inside k (by omega)
      refine ⟨k, by rw [hj], by rw [hj]; exact h2, fun k' hk' => ?_⟩
      rw [r.inside k' (by omega)]; exact h3 k' hk'
    | none =>
      dsimp only
      have hall := List.find?_range_eq_none.mp q
      have no : ∀ k, k ≤ SetTable.runEnd mask i - i → Fr' O (look mask h (m + k)).j = false := fun k hk => by
        rw [r.inside k hk]
        have := hall k (by omega)
        unfold Fr'
        simpa using this
      have hKL : SetTable.runEnd mask i - i < K := by
        refine Nat.lt_of_not_le fun hc => ?_
        rw [no K hc] at hf; cases hf
      obtain ⟨k, e1, e2, e3⟩ := free_spec fuel _ _ _ r.next ⟨K - (SetTable.runEnd mask i - i) - 1, by omega, by
        rw [show m + (SetTable.runEnd mask i - i) + 1 + (K - (SetTable.runEnd mask i - i) - 1) = m + K from by omega]; exact hf⟩
      refine ⟨(SetTable.runEnd mask i - i) + 1 + k, ?_, ?_, fun k' hk' => ?_⟩
      · rw [show m + ((SetTable.runEnd mask i - i) + 1 + k) = m + (SetTable.runEnd mask i - i) + 1 + k from by omega]; exact e1
      · rw [show m + ((SetTable.runEnd mask i - i) + 1 + k) = m + (SetTable.runEnd mask i - i) + 1 + k from by omega]; exact e2
      · rcases Nat.lt_or_ge k' (SetTable.runEnd mask i - i + 1) with hq | hq
        · exact no k' (by omega)
        · have := e3 (k' - (SetTable.runEnd mask i - i) - 1) (by omega)
          rwa [show m + (SetTable.runEnd mask i - i) + 1 + (k' - (SetTable.runEnd mask i - i) - 1) = m + k' from by omega] at this
/-- the slots after some of the hashes -/
structure LaidO (mask : Nat) (l : List Int) (O : Array (Option Nat)) : Prop where
  size : O.size = mask + 1
  at_ : ∀ (i : Nat) (h : Int), l[i]? = some h → ∃ k, k < 40 ∧ O[(look mask h k).j]? = some (some i) ∧ ∀ m, m < k → ∃ i', O[(look mask h m).j]? = some (some i')
  back : ∀ (j i : Nat), O[j]? = some (some i) → i < l.length
  inj : ∀ (j j' i : Nat), O[j]? = some (some i) → O[j']? = some (some i) → j = j'
  occ : ∃ occ : List Nat, occ.length = l.length ∧ ∀ j, j ∈ occ ↔ ∃ i, O[j]? = some (some i)
theorem LaidO.nil (mask : Nat) : LaidO mask [] (Array.replicate (mask + 1) none) where
  size := by simp
  at_ := fun i h e => by simp at e
  back := fun j i e => by
    rw [Array.getElem?_replicate] at e
    split at e <;> cases e
  inj := fun j j' i e => by
    rw [Array.getElem?_replicate] at e
    split at e <;> cases e
  occ := ⟨[], rfl, fun j => ⟨fun h => by simp at h, fun ⟨i, e⟩ => by
    rw [Array.getElem?_replicate] at e
    split at e <;> cases e⟩⟩
theorem free_iff {O : Array (Option Nat)} {j : Nat} (h : Fr' O j = true) : O[j]? = some none := by
  unfold Fr' at h
  rw [Array.getD_eq_getD_getElem?] at h
  cases q : O[j]? with
  | none => rw [q] at h; cases h
  | some o =>
    rw [q] at h
    cases o with
    | none => rfl
    | some _ => cases h
theorem not_free {O : Array (Option Nat)} {j : Nat} (h : Fr' O j = false) (hj : j < O.size) : ∃ i, O[j]? = some (some i) := by
  unfold Fr' at h
  rw [Array.getD_eq_getD_getElem?, Array.getElem?_eq_getElem hj] at h
  rw [Array.getElem?_eq_getElem hj]
  cases q : O[j] with
  | none => rw [q] at h; cases h
  | some i => exact ⟨i, rfl⟩
theorem LaidO.snoc {mask : Nat} {l : List Int} {O : Array (Option Nat)} (L : LaidO mask l O) {p : Int × Int} (hp : Low5 p) (hm : (mask = 7 ∧ l.length < 5) ∨ (mask = 31 ∧ l.length < 16)) (h40 : 40 ≤ SetTable.turns mask) :
    ∃ j, SetTable.layClean.free mask O (SetTable.turns mask) (SetTable.bits (pairHash p) % (mask + 1)) (SetTable.bits (pairHash p)) = some j ∧ LaidO mask (l ++ [pairHash p]) (O.setIfInBounds j (some l.length)) := by
  obtain ⟨occ, ho, hocc⟩ := L.occ
  obtain ⟨K, hK, hn, hle, hb⟩ := free_look (place := occ) hp (by rw [ho]; exact hm)
  have inb : ∀ k, k < 40 → (look mask (pairHash p) k).j ≤ mask := fun k hk => by
    have hg := looks_good p (mem25 hp)
    have key : (looks40 mask (pairHash p)).all (· ≤ mask) = true := by
      simp only [Bool.and_eq_true] at hg
      rcases hm with ⟨rfl, _⟩ | ⟨rfl, _⟩
      · exact hg.1.1
      · exact hg.2.1
    have hm' : (look mask (pairHash p) k).j ∈ looks40 mask (pairHash p) := by
      refine List.mem_of_getElem? (i := k) ?_
      unfold looks40
      rw [lookL_get mask _ 40 0 k hk, Nat.zero_add]
    simpa using List.all_eq_true.mp key _ hm'
  have hfr : Fr' O (look mask (pairHash p) K).j = true := by
    cases q : Fr' O (look mask (pairHash p) K).j with
    | true => rfl
    | false => exact absurd ((hocc _).mpr (not_free q (by rw [L.size]; omega))) hn
  obtain ⟨k, e1, e2, e3⟩ := free_spec (SetTable.turns mask) 0 _ _ (RunAt.start mask (pairHash p)) ⟨K, by omega, by rw [Nat.zero_add]; exact hfr⟩
  simp only [Nat.zero_add] at e1 e2 e3
  have hkK : k ≤ K := by
    refine Nat.le_of_not_lt fun hc => ?_
    rw [e3 K hc] at hfr; cases hfr
  generalize hj : (look mask (pairHash p) k).j = j at *
  have hjO := free_iff e2
  have hjs : j < O.size := (Array.getElem?_eq_some_iff.mp hjO).1
  have other : ∀ x, x ≠ j → (O.setIfInBounds j (some l.length))[x]? = O[x]? := fun x hx => by rw [Array.getElem?_setIfInBounds]; rw [if_neg (Ne.symm hx)]
  have self : (O.setIfInBounds j (some l.length))[j]? = some (some l.length) := by rw [Array.getElem?_setIfInBounds, if_pos rfl, if_pos hjs]
  have up : ∀ x i, O[x]? = some (some i) → (O.setIfInBounds j (some l.length))[x]? = some (some i) := fun x i h => by
    rw [other x (fun e => by rw [e, hjO] at h; cases h)]; exact h
  refine ⟨j, e1, by simp [L.size], fun i h hi => ?_, fun x i h => ?_, fun x x' i h h' => ?_, ⟨j :: occ, by simp [ho], fun x => ?_⟩⟩
  · rcases Nat.lt_or_ge i l.length with q | q
    · rw [List.getElem?_append_left q] at hi
      obtain ⟨k', a1, a2, a3⟩ := L.at_ i h hi
      exact ⟨k', a1, up _ _ a2, fun m hm => let ⟨i', hi'⟩ := a3 m hm; ⟨i', up _ _ hi'⟩⟩
    · rw [List.getElem?_append_right q] at hi
      have hi0 : i - l.length = 0 := by
        have := (List.getElem?_eq_some_iff.mp hi).1
        simp at this; omega
      rw [hi0] at hi
      cases hi
      have : i = l.length := by omega
      subst this
      refine ⟨k, by omega, by rw [hj]; exact self, fun m hm => ?_⟩
      have := not_free (e3 m hm) (by have := inb m (by omega); rw [L.size]; omega)
      obtain ⟨i', hi'⟩ := this
      exact ⟨i', up _ _ hi'⟩
  · rw [List.length_append, List.length_singleton]
    by_cases q : x = j
    · subst q; rw [self] at h; cases h; omega
    · rw [other x q] at h; have := L.back x i h; omega
  · by_cases q : x = j
    · by_cases q' : x' = j
      · rw [q, q']
      · subst q
        rw [self] at h; cases h
        rw [other x' q'] at h'
        have := L.back x' _ h'; omega
    · by_cases q' : x' = j
      · subst q'
        rw [self] at h'; cases h'
        rw [other x q] at h
        have := L.back x _ h; omega
      · rw [other x q] at h; rw [other x' q'] at h'; exact L.inj x x' i h h'
  · rw [List.mem_cons, hocc]
    constructor
    · rintro (rfl | ⟨i, hi⟩)
      · exact ⟨_, self⟩
      · exact ⟨i, up _ _ hi⟩
    · rintro ⟨i, hi⟩
      by_cases q : x = j
      · exact .inl q
      · rw [other x q] at hi; exact .inr ⟨i, hi⟩
def layStep (mask : Nat) (acc : Option (Array (Option Nat) × Nat)) (h : Int) : Option (Array (Option Nat) × Nat) := do
  let (owner, k) ← acc
  let j ← SetTable.layClean.free mask owner (SetTable.turns mask) (SetTable.bits h % (mask + 1)) (SetTable.bits h)
  pure (owner.setIfInBounds j (some k), k + 1)
theorem layClean_eq (mask : Nat) (hs : List Int) : SetTable.layClean mask hs.toArray = (hs.foldl (layStep mask) (some (Array.replicate (mask + 1) none, 0))).map (·.1) := by
  unfold SetTable.layClean
  rw [List.foldl_toArray]
  rfl
theorem layStep_some {mask : Nat} {O : Array (Option Nat)} {n j : Nat} {h : Int} (e : SetTable.layClean.free mask O (SetTable.turns mask) (SetTable.bits h % (mask + 1)) (SetTable.bits h) = some j) :
    layStep mask (some (O, n)) h = some (O.setIfInBounds j (some n), n + 1) := by
  show (SetTable.layClean.free mask O (SetTable.turns mask) (SetTable.bits h % (mask + 1)) (SetTable.bits h)).bind _ = _
  rw [e]; rfl
theorem lay_fold {mask : Nat} (h40 : 40 ≤ SetTable.turns mask) : ∀ (ps : List (Int × Int)) (l : List Int) (O : Array (Option Nat)), LaidO mask l O → (∀ p ∈ ps, Low5 p) → ((mask = 7 ∧ l.length + ps.length ≤ 5) ∨ (mask = 31 ∧ l.length + ps.length ≤ 16)) →
    ∃ O', (ps.map pairHash).foldl (layStep mask) (some (O, l.length)) = some (O', l.length + ps.length) ∧ LaidO mask (l ++ ps.map pairHash) O'
  | [], l, O, L, _, _ => ⟨O, rfl, by simpa using L⟩
  | p :: ps, l, O, L, hp, hm => by
    have hm1 : (mask = 7 ∧ l.length < 5) ∨ (mask = 31 ∧ l.length < 16) := by
      rw [List.length_cons] at hm
      rcases hm with ⟨a, b⟩ | ⟨a, b⟩
      · exact .inl ⟨a, by omega⟩
      · exact .inr ⟨a, by omega⟩
    obtain ⟨j, e, L'⟩ := L.snoc (hp p List.mem_cons_self) hm1 h40
    have hm2 : (mask = 7 ∧ (l ++ [pairHash p]).length + ps.length ≤ 5) ∨ (mask = 31 ∧ (l ++ [pairHash p]).length + ps.length ≤ 16) := by
      rw [List.length_cons] at hm
      rw [List.length_append, List.length_singleton]
      rcases hm with ⟨a, b⟩ | ⟨a, b⟩
      · exact .inl ⟨a, by omega⟩
      · exact .inr ⟨a, by omega⟩
    obtain ⟨O', e', L''⟩ := lay_fold h40 ps _ _ L' (fun q hq => hp q (List.mem_cons_of_mem _ hq)) hm2
    rw [List.length_append, List.length_singleton] at e'
    rw [List.append_assoc] at L''
    refine ⟨O', ?_, L''⟩
    rw [List.map_cons, List.foldl_cons, layStep_some e, e', List.length_cons]
    congr 2; omega
theorem layClean_ok {mask : Nat} (h40 : 40 ≤ SetTable.turns mask) (ps : List (Int × Int)) (hp : ∀ p ∈ ps, Low5 p) (hm : (mask = 7 ∧ ps.length ≤ 5) ∨ (mask = 31 ∧ ps.length ≤ 16)) :
    ∃ O, SetTable.layClean mask (ps.map pairHash).toArray = some O ∧ LaidO mask (ps.map pairHash) O := by
  obtain ⟨O, e, L⟩ := lay_fold h40 ps [] _ (LaidO.nil mask) hp (by rw [List.length_nil, Nat.zero_add]; exact hm)
  rw [List.length_nil] at e
  exact ⟨O, by rw [layClean_eq, e]; rfl, by rw [List.nil_append] at L; exact L⟩
end Mine
end
section
open PySem PySem.W PyProof.Rows PySem.SeqAt
set_option maxRecDepth 10000
set_option autoImplicit false
set_option linter.unusedVariables false
namespace Mine
def liveOf (mask : Nat) (O : Array (Option Nat)) : List (Nat × Nat) := (List.range (mask + 1)).filterMap fun j => (O.getD j none).map (j, ·)
theorem mem_live {mask : Nat} {O : Array (Option Nat)} (hs : O.size = mask + 1) {j i : Nat} : (j, i) ∈ liveOf mask O ↔ O[j]? = some (some i) := by
  unfold liveOf
  rw [List.mem_filterMap]
  constructor
  · rintro ⟨a, ha, h⟩
    rw [Array.getD_eq_getD_getElem?] at h
    cases q : O[a]? with
    | none => rw [q] at h; cases h
    | some o =>
      rw [q] at h
      cases o with
      | none => cases h
      | some b => cases h; exact q
  · intro h
    refine ⟨j, List.mem_range.mpr (by have := (Array.getElem?_eq_some_iff.mp h).1; omega), ?_⟩
    rw [Array.getD_eq_getD_getElem?, h]; rfl
theorem live_rising (mask : Nat) (O : Array (Option Nat)) : (liveOf mask O).Pairwise (fun a b => a.1 < b.1) := by
  unfold liveOf
  rw [List.pairwise_filterMap]
  refine List.pairwise_lt_range.imp fun {a b} hab x hx y hy => ?_
  cases q : O.getD a none with
  | none => rw [q] at hx; cases hx
  | some _ =>
    rw [q] at hx; cases hx
    cases q' : O.getD b none with
    | none => rw [q'] at hy; cases hy
    | some _ => rw [q'] at hy; cases hy; exact hab
theorem fm_map {α β : Type} (f : α → Option β) (g : α → β) : ∀ l : List α, (∀ x ∈ l, f x = some (g x)) → l.filterMap f = l.map g
  | [], _ => rfl
  | x :: l, h => by rw [List.filterMap_cons, h x List.mem_cons_self, List.map_cons, fm_map f g l fun y hy => h y (List.mem_cons_of_mem _ hy)]
theorem laid_ok {mask f m : Nat} {led : Bool} (h40 : 40 ≤ SetTable.turns mask) (ps : List (Int × Int)) (hp : ∀ p ∈ ps, Low5 p) (hm : mask = 31 ∧ ps.length < 16) :
    ∃ t' order, SetTable.laid mask f m led true (ps.map pairHash).toArray = some (t', order) ∧ t'.led = led ∧ order.toList.Perm (List.range ps.length) ∧ PTab t' (order.toList.filterMap fun i => (ps.map pairHash)[i]?) := by
  obtain ⟨O, e, L⟩ := layClean_ok h40 ps hp (.inr ⟨hm.1, by omega⟩)
  have hlen : (ps.map pairHash).length = ps.length := List.length_map _
  have nd : ((liveOf mask O).map (·.2)).Nodup := by
    rw [List.Nodup, List.pairwise_map]
    refine (List.Pairwise.and_mem.mp (live_rising mask O)).imp fun {a b} h q => ?_
    have h1 := (mem_live L.size).mp h.1
    have h2 := (mem_live L.size).mp h.2.1
    rw [q] at h1
    have := L.inj _ _ _ h1 h2
    have := h.2.2
    omega
  have hmem : ∀ i, i ∈ (liveOf mask O).map (·.2) ↔ i ∈ List.range ps.length := fun i => by
    rw [List.mem_map, List.mem_range]
    constructor
    · rintro ⟨⟨j, i'⟩, h, rfl⟩
      have := L.back j i' ((mem_live L.size).mp h)
      rwa [hlen] at this
    · intro h
      obtain ⟨k, _, hk, _⟩ := L.at_ i _ (List.getElem?_eq_getElem (by rw [hlen]; exact h))
      exact ⟨(_, i), (mem_live L.size).mpr hk, rfl⟩
  have perm : ((liveOf mask O).map (·.2)).Perm (List.range ps.length) := (List.perm_ext_iff_of_nodup nd List.nodup_range).mpr hmem
  have hfm : ((liveOf mask O).map (·.2)).filterMap (fun i => (ps.map pairHash)[i]?) = (liveOf mask O).map fun q => (ps.map pairHash).getD q.2 0 := by
    rw [List.filterMap_map]
    refine fm_map _ _ _ fun q hq => ?_
    have := L.back q.1 q.2 ((mem_live L.size).mp hq)
    show (ps.map pairHash)[q.2]? = _
    rw [List.getD_eq_getElem?_getD, List.getElem?_eq_getElem this]; rfl
  have live_at : ∀ (i : Nat) (q : Nat × Nat), (liveOf mask O)[i]? = some q → O[q.1]? = some (some q.2) := fun i q h => (mem_live L.size).mp (List.mem_of_getElem? h)
  have llen : (liveOf mask O).length = ps.length := by
    have := perm.length_eq
    simpa using this
  refine ⟨{ mask, place := ((liveOf mask O).map (·.1)).toArray, dummies := #[], finger := f, led, moves := m, plain := true }, ((liveOf mask O).map (·.2)).toArray, ?_, rfl, perm, ?_⟩
  · unfold SetTable.laid
    rw [e]; rfl
  · show PTab _ (((liveOf mask O).map (·.2)).filterMap fun i => (ps.map pairHash)[i]?)
    rw [hfm]
    refine ⟨?_, ?_, rfl, .inr ⟨hm.1, by rw [List.length_map, llen]; exact hm.2⟩, fun j hj => ?_, rfl, fun i h hi => ?_⟩
    · simp
    · show ((liveOf mask O).map (·.1)).Pairwise (· < ·)
      rw [List.pairwise_map]; exact live_rising mask O
    · obtain ⟨q, hq, rfl⟩ := List.mem_map.mp hj
      have := (Array.getElem?_eq_some_iff.mp ((mem_live L.size).mp hq)).1
      rw [L.size] at this
      show q.1 ≤ mask
      omega
    · rw [List.getElem?_map] at hi
      cases hq : (liveOf mask O)[i]? with
      | none => rw [hq] at hi; cases hi
      | some q =>
        rw [hq] at hi
        have hO := live_at i q hq
        have hl : (ps.map pairHash)[q.2]? = some h := by
          have := L.back _ _ hO
          rw [List.getElem?_eq_getElem this]
          have e2 : (ps.map pairHash).getD q.2 0 = h := Option.some.inj hi
          rw [List.getD_eq_getElem?_getD, List.getElem?_eq_getElem this] at e2
          rw [← e2]; rfl
        obtain ⟨k, h1, h2, h3⟩ := L.at_ q.2 h hl
        have hj := L.inj _ _ _ h2 hO
        refine ⟨k, h1, ?_, fun m' hm' => ?_⟩
        · show ((liveOf mask O).map (·.1)).toArray[i]? = _
          rw [List.getElem?_toArray, List.getElem?_map, hq, hj]; rfl
        · obtain ⟨i', hi'⟩ := h3 m' hm'
          exact List.mem_map.mpr ⟨_, (mem_live L.size).mpr hi', rfl⟩
/-! sets of pairs -/
theorem PEnts.length {h : Heap} : ∀ {es : List (Int × Value)} {l : List (Int × Int)}, PEnts h es l → es.length = l.length
  | [], [], _ => rfl
  | _ :: _, _ :: _, x => congrArg (· + 1) (PEnts.length x.2)
  | [], _ :: _, x => x.elim
  | _ :: _, [], x => x.elim
theorem PEnts.get {h : Heap} : ∀ {es : List (Int × Value)} {l : List (Int × Int)}, PEnts h es l → ∀ {i : Nat} {p : Int × Int}, l[i]? = some p → ∃ c, es[i]? = some (pairHash p, c) ∧ VRep h (.pair p) c
  | [], [], _, i, p, e => by simp at e
  | x :: xs, q :: qs, r, 0, p, e => by
    simp at e; subst e
    exact ⟨x.2, by rw [List.getElem?_cons_zero, ← r.1.1], r.1.2⟩
  | x :: xs, q :: qs, r, i + 1, p, e => by simp at e; obtain ⟨c, h1, h2⟩ := PEnts.get r.2 e; exact ⟨c, by simpa using h1, h2⟩
  | [], _ :: _, x, _, _, _ => x.elim
  | _ :: _, [], x, _, _, _ => x.elim
theorem PEnts.of_get {h : Heap} : ∀ {es : List (Int × Value)} {l : List (Int × Int)}, es.length = l.length → (∀ (i : Nat) e p, es[i]? = some e → l[i]? = some p → e.1 = pairHash p ∧ VRep h (.pair p) e.2) → PEnts h es l
  | [], [], _, _ => trivial
  | e :: es, p :: l, hl, hh => ⟨hh 0 e p rfl rfl, PEnts.of_get (Nat.succ.inj hl) fun i e' p' h1 h2 => hh (i + 1) e' p' (by simpa using h1) (by simpa using h2)⟩
  | [], _ :: _, hl, _ => by cases hl
  | _ :: _, [], hl, _ => by cases hl
theorem PEnts.hashes {h : Heap} : ∀ {es : List (Int × Value)} {l : List (Int × Int)}, PEnts h es l → es.map (·.1) = l.map pairHash
  | [], [], _ => rfl
  | _ :: _, _ :: _, x => by rw [List.map_cons, List.map_cons, x.1.1, PEnts.hashes x.2]
  | [], _ :: _, x => x.elim
  | _ :: _, [], x => x.elim
theorem PEnts.append {h : Heap} : ∀ {es : List (Int × Value)} {l : List (Int × Int)} {es' : List (Int × Value)} {l' : List (Int × Int)}, PEnts h es l → PEnts h es' l' → PEnts h (es ++ es') (l ++ l')
  | [], [], _, _, _, r => r
  | _ :: _, _ :: _, _, _, r, r' => ⟨r.1, PEnts.append r.2 r'⟩
  | [], _ :: _, _, _, r, _ => r.elim
  | _ :: _, [], _, _, r, _ => r.elim
theorem PEnts.take {h : Heap} : ∀ {es : List (Int × Value)} {l : List (Int × Int)} (n : Nat), PEnts h es l → PEnts h (es.take n) (l.take n)
  | _, _, 0, _ => trivial
  | [], [], _ + 1, _ => trivial
  | _ :: _, _ :: _, n + 1, r => ⟨r.1, PEnts.take n r.2⟩
  | [], _ :: _, _ + 1, r => r.elim
  | _ :: _, [], _ + 1, r => r.elim
theorem PEnts.drop {h : Heap} : ∀ {es : List (Int × Value)} {l : List (Int × Int)} (n : Nat), PEnts h es l → PEnts h (es.drop n) (l.drop n)
  | _, _, 0, r => r
  | [], [], _ + 1, _ => trivial
  | _ :: _, _ :: _, n + 1, r => PEnts.drop n r.2
  | [], _ :: _, _ + 1, r => r.elim
  | _ :: _, [], _ + 1, r => r.elim
theorem PEnts.perm {h : Heap} {es fs : List (Int × Value)} (p : fs.Perm es) : ∀ {l : List (Int × Int)}, PEnts h es l → ∃ m, PEnts h fs m ∧ m.Perm l := by
  induction p with
  | nil => intro l r; exact ⟨l, r, List.Perm.refl _⟩
  | cons x _ ih =>
    intro l r
    cases l with
    | nil => exact r.elim
    | cons q l => obtain ⟨m, h1, h2⟩ := ih r.2; exact ⟨q :: m, ⟨r.1, h1⟩, h2.cons q⟩
  | swap x y es =>
    intro l r
    match l, r with
    | a :: b :: l, r => exact ⟨b :: a :: l, ⟨r.2.1, r.1, r.2.2⟩, List.Perm.swap ..⟩
  | trans _ _ ih1 ih2 =>
    intro l r
    obtain ⟨m, h1, h2⟩ := ih2 r
    obtain ⟨m', h3, h4⟩ := ih1 h1
    exact ⟨m', h3, h4.trans h2⟩
theorem PEnts.values {h : Heap} : ∀ {es : List (Int × Value)} {l : List (Int × Int)}, PEnts h es l → VReps h (l.map .pair) (es.map (·.2))
  | [], [], _ => trivial
  | _ :: _, _ :: _, x => ⟨x.1.2, PEnts.values x.2⟩
  | [], _ :: _, x => x.elim
  | _ :: _, [], x => x.elim
end Mine
end
section
open PySem PySem.W PyProof.Rows PySem.SeqAt
set_option maxRecDepth 10000
set_option autoImplicit false
set_option linter.unusedVariables false
namespace Mine
def insP (S : List (Int × Int)) (k : Int × Int) : List (Int × Int) := if k ∈ S then S else S ++ [k]
theorem PTab.fits {t : SetTable} {hs : List Int} (P : PTab t hs) : t.fits hs.length = true := by
  unfold SetTable.fits SetTable.fill
  rw [P.dum, P.size]
  rcases P.mask with ⟨h, h'⟩ | ⟨h, h'⟩ <;> (rw [h]; simp; omega)
theorem PTab.gave {t : SetTable} {hs : List Int} (P : PTab t hs) : t.gaveWay = false := by
  unfold SetTable.gaveWay
  rcases P.mask with ⟨h, _⟩ | ⟨h, _⟩ <;> (rw [h]; rfl)
theorem pairHashes_nodup {l : List (Int × Int)} (hn : l.Nodup) (h5 : ∀ p ∈ l, Low5 p) : (l.map pairHash).Nodup := by
  rw [List.Nodup, List.pairwise_map]
  refine (List.Pairwise.and_mem.mp hn).imp fun {a b} h q => h.2.2 (pairHash_inj (h5 a h.1) (h5 b h.2.1) q)
theorem pair_key {C : Cx} {h : Heap} {p : Int × Int} {c : Value} (r : VRep h (.pair p) c) : ∃ a, c = .ref a ∧ IsTupleKey (intKind C.prog C.w) h [p.1, p.2] a ∧ h.get? a ≠ none := by
  obtain ⟨a, t, u, n, rfl, g⟩ := pair_rep r
  exact ⟨a, rfl, ⟨_, _, n, g, rfl, rfl, .cons (intKind_is _ _ _ _) (.cons (intKind_is _ _ _ _) .nil)⟩, by rw [g]; exact fun e => nomatch e⟩
theorem pair_hash (C : Cx) (p : Int × Int) : tupleKeyHash (intKind C.prog C.w) [p.1, p.2] = pairHash p := rfl
section
variable {C : Cx} {A : Around} {env : Env} {ρ : Loc} {H : AHeap} {s : Shared}
theorem quiet_pair {P : Program} {w : World} {A : Around} {s : Shared} {p : Int × Int} {c : Value} {Q : Bool → Shared → Prop} {E : Value → Shared → Prop} (r : VRep s.heap (.pair p) c) (h : Q true s) : wpAny (model P w) A (eqIsQuiet 8 c) Q E s := by
  obtain ⟨a, t, u, n, rfl, g⟩ := pair_rep r
  exact wpAny_eqIsQuiet_tuple (knd := intKind P w) (ks := [p.1, p.2]) ⟨_, _, n, g, rfl, rfl, .cons (intKind_is _ _ _ _) (.cons (intKind_is _ _ _ _) .nil)⟩ h
theorem class_pair {P : Program} {w : World} {A : Around} {s : Shared} {p : Int × Int} {c : Value} {Q : Bool → Shared → Prop} {E : Value → Shared → Prop} (r : VRep s.heap (.pair p) c) (h : Q false s) : wpAny (model P w) A (ofAClassStatement 8 c) Q E s := by
  obtain ⟨a, t, u, n, rfl, g⟩ := pair_rep r
  unfold ofAClassStatement
  refine wpAny_bind (wpAny_typeOf ⟨_, g, rfl⟩ ?_)
  dsimp only
  rw [if_pos (by decide)]
  refine wpAny_bind (wpAny_pure ?_)
  simp only [Bool.not_true, Bool.false_eq_true, if_false]
  refine wpAny_bind (wpAny_seqItems g rfl ?_)
  dsimp only
  refine wpAny_bind ?_
  rw [← Array.forIn_toList]
  refine wpAny_forIn_list _ (fun rest r s' => r.1 = none ∧ s' = s ∧ ∀ v ∈ rest, carriedByValue v = true) _ ?_ ?_ _ _ ⟨rfl, rfl, fun v hv => ?_⟩
  · rintro v rest r s' ⟨hr, rfl, hall⟩
    have e : ∀ n, ofAClassStatement n v = pure false := fun n => by
      have := hall v List.mem_cons_self
      cases v with
      | ref a => simp [carriedByValue] at this
      | _ => cases n <;> rfl
    rw [e]
    refine wpAny_bind (wpAny_pure ?_)
    simp only [Bool.false_eq_true, if_false]
    exact wpAny_pure ⟨rfl, rfl, fun u hu' => hall u (List.mem_cons_of_mem _ hu')⟩
  · rintro ⟨r1, r2⟩ s' ⟨hr, rfl, _⟩
    simp only at hr
    subst hr
    exact wpAny_pure h
  · simp at hv
    rcases hv with rfl | rfl <;> rfl
/-- the search does not show -/
theorem unseen {P : Program} {w : World} {A : Around} {s : Shared} {p : Int × Int} {c : Value} {Q : Bool → Shared → Prop} {E : Value → Shared → Prop} (r : VRep s.heap (.pair p) c) (st : List Value) (hst : ∀ y ∈ st, ∃ q, VRep s.heap (.pair q) y) (h : Q false s) :
    wpAny (model P w) A (searchCouldBeSeen c st) Q E s := by
  unfold searchCouldBeSeen
  refine wpAny_bind ?_
  refine wpAny_forIn_list _ (fun rest r s' => r.1 = none ∧ s' = s ∧ ∀ y ∈ rest, ∃ q, VRep s.heap (.pair q) y) _ ?_ ?_ _ _ ⟨rfl, rfl, hst⟩
  · rintro y rest r' s' ⟨hr, rfl, hall⟩
    obtain ⟨q, rq⟩ := hall y List.mem_cons_self
    have rest' : ∀ y ∈ rest, ∃ q, VRep s'.heap (.pair q) y := fun y hy => hall y (List.mem_cons_of_mem _ hy)
    obtain ⟨a, t, u, n, rfl, g⟩ := pair_rep r
    obtain ⟨b, t', u', n', rfl, g'⟩ := pair_rep rq
    have cv : carriedByValue (.ref a) = false := rfl
    dsimp only
    rw [cv]
    simp only [Bool.false_and, Bool.or_false]
    by_cases hab : (a == b) = true
    · rw [hab]
      simp only [if_true]
      exact wpAny_pure ⟨rfl, rfl, rest'⟩
    · rw [if_neg hab]
      refine wpAny_bind (quiet_pair r ?_)
      simp only [Bool.not_true, Bool.false_eq_true, if_false]
      refine wpAny_bind (quiet_pair rq ?_)
      simp only [Bool.not_true, Bool.false_eq_true, if_false]
      refine wpAny_bind (class_pair r ?_)
      simp only [Bool.false_eq_true, if_false]
      refine wpAny_bind (class_pair rq ?_)
      simp only [Bool.false_eq_true, if_false]
      exact wpAny_pure ⟨rfl, rfl, rest'⟩
  · rintro ⟨r1, r2⟩ s' ⟨hr, rfl, _⟩
    simp only at hr
    subst hr
    exact wpAny_pure h
theorem hashes_at {h : Heap} {es : Array (Int × Value)} {l : List (Int × Int)} (r : PEnts h es.toList l) (i : Nat) (x : Int) (e : (l.map pairHash)[i]? = some x) : ((es[i]?).map (·.1)).getD 0 = x := by
  rw [← r.hashes, List.getElem?_map, Array.getElem?_toList] at e
  rw [e]; rfl
/-- a pair that is not there -/
theorem search_absent {a : Addr} {l : List (Int × Int)} {es : Array (Int × Value)} {ep : Nat} {t : SetTable} {p : Int × Int} {c : Value} {ad : Bool} {Q : SetFound → Shared → Prop} (g : s.heap.get? a = some (setObj es ep t)) (r : PEnts s.heap es.toList l) (P : PTab t (l.map pairHash))
    (h5 : ∀ p ∈ l, Low5 p) (hp : Low5 p) (hno : p ∉ l)
    (h : ∀ k, k < 40 → (look t.mask (pairHash p) k).j ∉ t.place.toList → (look t.mask (pairHash p) k).j ≤ t.mask → (∀ m, m < k → (look t.mask (pairHash p) m).j ∈ t.place.toList) → Q (.free (look t.mask (pairHash p) k).j false) s) :
    W C A (setSearch a c (pairHash p) ad) Q s := by
  have hlen := r.length
  rw [Array.length_toList] at hlen
  have hfit : t.fits es.size = true := by rw [hlen, ← List.length_map (f := pairHash)]; exact P.fits
  unfold setSearch setSearchFrom
  refine wpAny_bind (wpAny_setState_of g rfl hfit ?_)
  dsimp only
  rw [P.gave]
  simp only [Bool.false_eq_true, if_false]
  refine wpAny_bind (wpAny_pure ?_)
  obtain ⟨k, h1, h2, h3, h4, h6⟩ := P.absent hp (fun q => by
    obtain ⟨q', hq, e⟩ := List.mem_map.mp q
    exact hno (pairHash_inj (h5 q' hq) hp e ▸ hq)) (hashes_at r) P.mask
  generalize hq : SetTable.probe t _ _ _ = q
  have e := hq.symm.trans h6
  rw [e]
  dsimp only
  exact wpAny_pure (h k h1 h2 h3 h4)
/-- a pair that is there -/
theorem search_there {a : Addr} {l : List (Int × Int)} {es : Array (Int × Value)} {ep : Nat} {t : SetTable} {p : Int × Int} {c : Value} {Q : SetFound → Shared → Prop} (hu : A.units < cLine) (g : s.heap.get? a = some (setObj es ep t)) (r : PEnts s.heap es.toList l) (P : PTab t (l.map pairHash))
    (hn : l.Nodup) (h5 : ∀ p ∈ l, Low5 p) (hp : p ∈ l) (hc : VRep s.heap (.pair p) c)
    (h : Q (.there none) s) : W C A (setSearch a c (pairHash p) true) Q s := by
  have hlen := r.length
  rw [Array.length_toList] at hlen
  have hfit : t.fits es.size = true := by rw [hlen, ← List.length_map (f := pairHash)]; exact P.fits
  unfold setSearch setSearchFrom
  refine wpAny_bind (wpAny_setState_of g rfl hfit ?_)
  dsimp only
  rw [P.gave]
  simp only [Bool.false_eq_true, if_false]
  refine wpAny_bind (wpAny_pure ?_)
  obtain ⟨i, hi⟩ := List.getElem?_of_mem hp
  obtain ⟨j, nx, h6⟩ := P.found (pairHashes_nodup hn h5) (i := i) (h := pairHash p) (by rw [List.getElem?_map, hi]; rfl) (hashes_at r)
  generalize hq : SetTable.probe t _ _ _ = q
  have e := hq.symm.trans h6
  rw [e]
  dsimp only
  obtain ⟨c', hc', rc'⟩ := r.get hi
  rw [Array.getElem?_toList] at hc'
  rw [hc']
  dsimp only
  obtain ⟨b, hb, kb, _⟩ := pair_key (C := C) rc'
  obtain ⟨d, hd, kd, _⟩ := pair_key (C := C) hc
  cases hl : t.led with
  | true =>
    simp only [Bool.not_true, Bool.false_eq_true, if_false]
    subst hb hd
    refine wpAny_bind (wpAny_holding (wpAny_eqBool_tuple hu kb kd ?_))
    refine wpAny_bind (wpAny_setState_of g rfl hfit ?_)
    rw [show (true && decide ([p.1, p.2] = [p.1, p.2])) = true from by simp]
    simp only [if_true]
    exact wpAny_pure h
  | false =>
    simp only [Bool.not_false, if_true]
    refine wpAny_bind (unseen hc _ (fun y hy => ?_) ?_)
    · obtain ⟨e', he', rfl⟩ := List.mem_map.mp hy
      have : e' ∈ es.toList := by
        have := Array.mem_toList_iff.mp he'
        exact Array.mem_toList_iff.mpr (Array.mem_filter.mp this).1
      obtain ⟨n, hn'⟩ := List.getElem?_of_mem this
      have hnl : n < l.length := by
        have := (List.getElem?_eq_some_iff.mp hn').1
        rw [r.length] at this; exact this
      obtain ⟨c2, hc2, rc2⟩ := r.get (List.getElem?_eq_getElem hnl)
      rw [hn'] at hc2
      cases hc2
      exact ⟨_, rc2⟩
    simp only [Bool.false_eq_true, if_false]
    subst hb hd
    refine wpAny_bind (wpAny_holding (wpAny_eqBool_tuple hu kb kd ?_))
    refine wpAny_bind (wpAny_setState_of g rfl hfit ?_)
    rw [show (true && decide ([p.1, p.2] = [p.1, p.2])) = true from by simp]
    simp only [if_true]
    exact wpAny_pure h
/-- an element's hash does not lean on text -/
theorem byValue_pair {P : Program} {w : World} {A : Around} {s : Shared} {p : Int × Int} {c : Value} {Q : Bool → Shared → Prop} {E : Value → Shared → Prop} (r : VRep s.heap (.pair p) c) (h : Q true s) : wpAny (model P w) A (hashByValue 8 c) Q E s := by
  obtain ⟨a, t, u, n, rfl, g⟩ := pair_rep r
  unfold hashByValue
  refine wpAny_bind (wpAny_specialOf ⟨_, g, rfl⟩ PySem.F.slot_tuple_hash.lookup ?_)
  show wpAny _ _ (seqItems? (.ref a) >>= _) _ _ s
  refine wpAny_bind (wpAny_seqItems g rfl ?_)
  refine wpAny_bind ?_
  rw [← Array.forIn_toList]
  refine wpAny_forIn_list _ (fun rest r s' => r.1 = none ∧ s' = s ∧ ∀ v ∈ rest, ∃ i t, v = Value.int i t) _ ?_ ?_ _ _ ⟨rfl, rfl, fun v hv => ?_⟩
  · rintro v rest r s' ⟨hr, rfl, hall⟩
    obtain ⟨i, t', rfl⟩ := hall v List.mem_cons_self
    have e : ∀ n, hashByValue n (Value.int i t') = pure true := fun n => by cases n <;> rfl
    rw [e]
    refine wpAny_bind (wpAny_pure ?_)
    simp only [Bool.not_true, Bool.false_eq_true, if_false]
    exact wpAny_pure ⟨rfl, rfl, fun u hu' => hall u (List.mem_cons_of_mem _ hu')⟩
  · rintro ⟨r1, r2⟩ s' ⟨hr, rfl, _⟩
    simp only at hr
    subst hr
    exact wpAny_pure h
  · simp at hv
    rcases hv with rfl | rfl
    · exact ⟨_, _, rfl⟩
    · exact ⟨_, _, rfl⟩
end
end Mine
end
section
open PySem PySem.W PyProof.Rows PySem.SeqAt
set_option maxRecDepth 10000
set_option autoImplicit false
set_option linter.unusedVariables false
namespace Mine
theorem fm_range {α : Type} : ∀ (l : List α), (List.range l.length).filterMap (fun i => l[i]?) = l := fun l => by
  have := filterMap_getElem?_range l.toArray
  simpa using this
theorem fm_perm {α : Type} {o : List Nat} {l : List α} (p : o.Perm (List.range l.length)) : (o.filterMap fun i => l[i]?).Perm l := by
  have := p.filterMap (fun i => l[i]?)
  rwa [fm_range] at this
theorem fm_map' {α β : Type} (f : α → β) (l : List α) : ∀ o : List Nat, (o.filterMap fun i => l[i]?).map f = o.filterMap fun i => (l.map f)[i]?
  | [] => rfl
  | i :: o => by
    rw [List.filterMap_cons, List.filterMap_cons, List.getElem?_map]
    cases q : l[i]? with
    | none => simp only [Option.map_none]; exact fm_map' f l o
    | some x => simp only [Option.map_some, List.map_cons]; rw [fm_map' f l o]
theorem PEnts.order {h : Heap} {es : List (Int × Value)} {l : List (Int × Int)} (r : PEnts h es l) : ∀ {o : List Nat}, (∀ i ∈ o, i < l.length) → PEnts h (o.filterMap fun i => es[i]?) (o.filterMap fun i => l[i]?)
  | [], _ => trivial
  | i :: o, hi => by
    have hil := hi i List.mem_cons_self
    obtain ⟨c, h1, h2⟩ := r.get (List.getElem?_eq_getElem hil)
    rw [List.filterMap_cons, List.filterMap_cons, List.getElem?_eq_getElem hil, h1]
    exact ⟨⟨rfl, h2⟩, r.order fun j hj => hi j (List.mem_cons_of_mem _ hj)⟩
section
variable {C : Cx} {A : Around} {env : Env} {ρ : Loc} {H : AHeap} {s : Shared}
theorem perm_putP {l S : List (Int × Int)} {k : Int × Int} (hl : l.Perm S) (n : Nat) (hk : k ∉ S) : (l.take n ++ k :: l.drop n).Perm (insP S k) := by
  unfold insP
  rw [if_neg hk]
  refine List.perm_middle.trans ?_
  rw [List.take_append_drop]
  exact (hl.cons k).trans (List.perm_append_comm (l₁ := [k]))
theorem add_pset {a : Addr} {S : List (Int × Int)} {p : Int × Int} {c : Value} {Q : Bool → Shared → Prop} (hu : A.units < cLine) (R : SRep C env ρ H s) (e : H a = some (.pset S)) (hsz : S.length < 15) (hp : Low5 p) (hc : VRep s.heap (.pair p) c)
    (h₀ : ∀ s', TExt s.heap s'.heap → SRep C env ρ (H.upd a (.pset (insP S p))) s' → Q (!decide (p ∈ S)) s') :
    W C A (setAdd a c) Q s := by
  have h : ∀ h' tk, TExt s.heap h' → SRep C env ρ (H.upd a (.pset (insP S p))) { s with heap := h', toks := tk } → Q (!decide (p ∈ S)) { s with heap := h', toks := tk } := fun h' tk => h₀ { s with heap := h', toks := tk }
  obtain ⟨⟨l, ⟨es, ep, t, g, r, hn, h5, P, hled⟩, hperm⟩, hB⟩ := R.hp a _ e
  have hlen := r.length
  rw [Array.length_toList] at hlen
  have hfit : t.fits es.size = true := by rw [hlen, ← List.length_map (f := pairHash)]; exact P.fits
  have hlS : l.length = S.length := hperm.length_eq
  have hsl : sizeLine = 2 ^ 24 := rfl
  obtain ⟨d, hd, kd, _⟩ := pair_key (C := C) hc
  unfold setAdd
  refine wpAny_holding ?_
  refine wpAny_bind ?_
  have hh : ∀ {Q' : Int → Shared → Prop}, Q' (pairHash p) { s with toks := s.toks + 3 } → W C A (pyHash c) Q' s := fun {Q'} h' => by
    subst hd
    exact wpAny_pyHash_tuple hu kd h'
  refine hh ?_
  have R₀ := R.tok (tk := s.toks + 3)
  have hns : ∀ es, byScan c es = false := fun es => by subst hd; rfl
  unfold setAddHashed setAddHashedIn
  refine wpAny_holding (wpAny_bind (wpAny_setState_of g rfl hfit ?_))
  dsimp only
  rw [hns]
  simp only [Bool.false_eq_true, if_false]
  by_cases hpl : p ∈ l
  · have hpS : p ∈ S := hperm.mem_iff.mp hpl
    refine wpAny_bind (search_there (s := { s with toks := s.toks + 3 }) hu g r P hn h5 hpl hc ?_)
    dsimp only
    refine wpAny_pure ?_
    have := h s.heap (s.toks + 3) (TExt.refl _) (by
      have := R₀.add (o := .pset (insP S p)) ⟨⟨l, ⟨es, ep, t, g, r, hn, h5, P, hled⟩, by unfold insP; rw [if_pos hpS]; exact hperm⟩, hB⟩ (fun q => by have := R.sep; rw [← q, e] at this; cases this)
      exact this)
    rw [decide_eq_true hpS] at this
    exact this
  · have hpS : p ∉ S := fun q => hpl (hperm.mem_iff.mpr q)
    refine wpAny_bind (search_absent (s := { s with toks := s.toks + 3 }) g r P h5 hp hpl fun k k1 k2 k3 k4 => ?_)
    dsimp only
    refine wpAny_bind (wpAny_setState_of (s := { s with toks := s.toks + 3 }) g rfl hfit ?_)
    dsimp only
    obtain ⟨b1, b2, b3⟩ := P.put k1 k2 k3 k4
    rw [b2]
    generalize (look t.mask (pairHash p) k).j = j at *
    generalize SetTable.below t.place j = n at *
    rw [List.length_map] at b1 b3
    dsimp only
    rw [if_pos P.plain]
    refine wpAny_bind (byValue_pair (s := { s with toks := s.toks + 3 }) hc ?_)
    simp only [if_true]
    have e1 : (SetTable.insertAt es n (pairHash p, c)).size = l.length + 1 := by
      have := (SetTable.insertAt_perm es n (pairHash p, c)).length_eq
      simp only [Array.length_toList, Array.size_push] at this
      omega
    refine wpAny_bind (wpAny_storeSet_of (s := { s with toks := s.toks + 3 }) g rfl ?_ (by rw [e1]; omega))
    have g1 := put_set (es' := SetTable.insertAt es n (pairHash p, c)) (t' := { t with place := SetTable.insertAt t.place n j }) g
    have sb1 := Heap.SameBut.update s.heap a (Obj.putSet (SetTable.insertAt es n (pairHash p, c)) { t with place := SetTable.insertAt t.place n j })
    have r1 : ∀ h', TExt s.heap h' → PEnts h' (SetTable.insertAt es n (pairHash p, c)).toList (l.take n ++ p :: l.drop n) := fun h' t' => by
      rw [SetTable.toList_insertAt]
      exact (PEnts.take n (r.t t')).append ⟨⟨rfl, hc.t t'⟩, PEnts.drop n (r.t t')⟩
    have hpp : (l.take n ++ p :: l.drop n).Perm (insP S p) := perm_putP hperm _ hpS
    have hins : insP S p = S ++ [p] := by unfold insP; rw [if_neg hpS]
    have nd : (insP S p).Nodup := by
      rw [hins]
      exact List.nodup_append.mpr ⟨hperm.nodup_iff.mp hn, by simp, fun a ha b hb => by simp at hb; subst hb; exact fun q => hpS (q ▸ ha)⟩
    have l5 : ∀ q ∈ insP S p, Low5 q := fun q hq => by
      rw [hins] at hq
      rcases List.mem_append.mp hq with hq | hq
      · exact h5 q (hperm.mem_iff.mpr hq)
      · simp at hq; subst hq; exact hp
    have fin : ∀ h', Heap.SameBut a s.heap h' → (∃ es' ep' t' l', h'.get? a = some (setObj es' ep' t') ∧ (TExt s.heap h' → PEnts h' es'.toList l') ∧ l'.Perm (insP S p) ∧ PTab t' (l'.map pairHash) ∧ t'.led = !byText C.w) → Q true { s with heap := h', toks := s.toks + 3 } := fun h' sb ⟨es', ep', t', l', g', r', pp, P', hl'⟩ => by
      have R' := R.change (tk := s.toks + 3) (o' := .pset (insP S p)) e g hB set_not_tup (fun v q => nomatch q) sb.extBut fun t => ⟨⟨l', ⟨es', ep', t', g', r' t, pp.nodup_iff.mpr nd, fun q hq => l5 q (pp.mem_iff.mp hq), P', hl'⟩, pp⟩, hB⟩
      have := h h' (s.toks + 3) (TExt.but sb g set_not_tup) R'
      rw [decide_eq_false hpS] at this
      exact this
    have hfill : SetTable.tooFull { t with place := SetTable.insertAt t.place n j } = decide ((l.length + 1) * 5 ≥ t.mask * 3) := by
      unfold SetTable.tooFull SetTable.fill
      have : (SetTable.insertAt t.place n j).size = l.length + 1 := by
        have h1 := (SetTable.insertAt_perm t.place n j).length_eq
        have h2 := P.size
        rw [List.length_map] at h2
        simp only [Array.length_toList, Array.size_push] at h1
        omega
      dsimp only
      rw [this, P.dum]; simp
    rw [hfill]
    have hmap : ∀ (l : List (Int × Int)) , (l.map pairHash).take n ++ pairHash p :: (l.map pairHash).drop n = (l.take n ++ p :: l.drop n).map pairHash := fun l => by
      rw [List.map_append, List.map_cons, List.map_take, List.map_drop]
    by_cases hfull : (l.length + 1) * 5 ≥ t.mask * 3
    · rw [decide_eq_true hfull]
      simp only [Bool.not_false, Bool.and_self, if_true]
      have hm7 : t.mask = 7 ∧ l.length = 4 := by
        have := P.mask
        rw [List.length_map] at this
        omega
      have sz5 : (l.take n ++ p :: l.drop n).length = 5 := by
        have h1 := hpp.length_eq
        have h2 : (S ++ [p]).length = S.length + 1 := by simp
        rw [hins, h2] at h1; omega
      obtain ⟨t2, o2, hl2, led2, op2, P2⟩ := laid_ok (mask := 31) (f := t.finger) (m := SetTable.movedTo { t with place := SetTable.insertAt t.place n j } 31) (led := t.led) (by decide) (l.take n ++ p :: l.drop n) (fun q hq => l5 q (hpp.mem_iff.mp hq)) ⟨rfl, by omega⟩
      have hh2 : (SetTable.insertAt es n (pairHash p, c)).map (·.1) = ((l.take n ++ p :: l.drop n).map pairHash).toArray := by
        apply Array.toList_inj.mp
        rw [Array.toList_map, (r1 s.heap (TExt.refl _)).hashes]
      have fit1 : SetTable.fits { t with place := SetTable.insertAt t.place n j } (SetTable.insertAt es n (pairHash p, c)).size = true := by
        unfold SetTable.fits SetTable.fill
        have : (SetTable.insertAt t.place n j).size = l.length + 1 := by
          have h1 := (SetTable.insertAt_perm t.place n j).length_eq
          have h2 := P.size
          rw [List.length_map] at h2
          simp only [Array.length_toList, Array.size_push] at h1
          omega
        dsimp only
        rw [this, P.dum, e1, hm7.1, hm7.2]; rfl
      have o5 : ∀ i ∈ o2.toList, i < (l.take n ++ p :: l.drop n).length := fun i hi => List.mem_range.mp (op2.mem_iff.mp hi)
      have pe := (r1 s.heap (TExt.refl _)).order o5
      have osz : (o2.toList.filterMap fun i => (l.take n ++ p :: l.drop n)[i]?).Perm (l.take n ++ p :: l.drop n) := fm_perm op2
      have eL : (o2.filterMap fun x => (SetTable.insertAt es n (pairHash p, c))[x]?).toList = o2.toList.filterMap fun i => (SetTable.insertAt es n (pairHash p, c)).toList[i]? := by
        rw [Array.toList_filterMap]
        simp only [Array.getElem?_toList]
      have z5 : (o2.filterMap fun x => (SetTable.insertAt es n (pairHash p, c))[x]?).size = (SetTable.insertAt es n (pairHash p, c)).size := by
        rw [← Array.length_toList, eL, pe.length, osz.length_eq, e1, sz5]; omega
      refine wpAny_bind (relay_set (s := { s with heap := _, toks := s.toks + 3 }) (C := C) (es' := o2.filterMap fun x => (SetTable.insertAt es n (pairHash p, c))[x]?) (t' := t2) (order := o2) g1 fit1 ?_ ?_ rfl z5 (by rw [e1]; omega) ?_)
      · rw [show es.size + 1 = 5 from by omega]; decide
      · rw [show es.size + 1 = 5 from by omega, hh2]
        unfold SetTable.relaid
        dsimp only
        rw [P.plain, show SetTable.sizeAbove (SetTable.grown 5) - 1 = 31 from by decide]
        exact hl2
      · refine wpAny_pure (fin _ (sb1.trans (Heap.SameBut.update _ a _)) ⟨_, ep + 1 + 1, t2, o2.toList.filterMap fun i => (l.take n ++ p :: l.drop n)[i]?, put_set g1, fun tx => ?_, osz.trans hpp, ?_, led2.trans hled⟩)
        · rw [eL]
          exact ((r1 _ tx)).order o5
        · rw [fm_map']; exact P2
    · rw [decide_eq_false hfull]
      simp only [Bool.not_false, Bool.and_false, Bool.false_eq_true, if_false]
      refine wpAny_bind (wpAny_pure (wpAny_pure (fin _ sb1 ⟨_, ep + 1, _, l.take n ++ p :: l.drop n, g1, r1 _, hpp, ?_, hled⟩)))
      rw [← hmap]
      refine b3 ?_
      have := P.mask
      rw [List.length_map] at this
      omega
end
end Mine
end
section
open PySem PySem.W PyProof.Rows PySem.SeqAt
set_option maxRecDepth 10000
set_option autoImplicit false
set_option linter.unusedVariables false
namespace Mine
/-- what is handled, if anything, is an exception without a context -/
def HOk (A : Around) (h : Heap) : Prop := A.handled = none ∨ ∃ e oe vs, A.handled = some (.ref e) ∧ h.get? e = some oe ∧ oe.data = .fields vs ∧ vs[2]? = some Value.none
theorem HOk.ext {A : Around} {h h' : Heap} (x : HOk A h) (k : ∀ e oe, A.handled = some (.ref e) → h.get? e = some oe → h'.get? e = some oe) : HOk A h' :=
  x.elim .inl fun ⟨e, oe, vs, h1, h2, h3⟩ => .inr ⟨e, oe, vs, h1, k _ _ h1 h2, h3⟩
theorem entry_unchain : entryFor table "proto.unchain" = some Builtin.«proto.unchain» := entryFor_of_tree (by kernel_rfl)
theorem plain_unchain : plainId "proto.unchain" = true := by decide +kernel
section
variable {P : Program} {w : World} {A : Around} {s : Shared}
theorem stop_raised {α : Type} {Q : α → Shared → Prop} {E : Value → Shared → Prop} (hA : HOk A s.heap) (h : ∀ h' x ob, Ext s.heap h' → h'.get? x = some ob → ob.cls = .type "StopIteration" → E (.ref x) { s with heap := h' }) :
    wpAny (model P w) A (newExc (.type "StopIteration") [] >>= fun e => (raiseNew e : Sem α)) Q E s := by
  refine wpAny_bind ?_
  simp only [newExc, newTuple]
  refine wpAny_bind (wpAny_newObj_type ?_ (by size_fits))
  refine wpAny_bind (m := firstArgMember _ _) (wpAny_of_eq (a := Value.none) (by first | rfl | (simp only [firstArgMember]; rfl)) ?_)
  refine wpAny_newObj_type ?_ (by size_fits)
  simp only [raiseNew]
  refine wpAny_bind (wpAny_handled ?_)
  rcases hA with hh | ⟨e, oe, vs, hh, ho, hd, hv⟩
  · rw [hh]
    refine wpAny_bind (wpAny_pure (wpAny_throw ?_))
    exact h _ _ _ ((Ext.push _ _).trans (Ext.push _ _)) (Heap.get?_push_size _ rfl) rfl
  · rw [hh]
    dsimp only
    have hlt := Heap.lt_size ho
    have hne : (Value.ref e != Value.ref (s.heap.push { cls := .type "tuple", data := .seq ([] : List Value).toArray }).objs.size) = true := by
      rw [bne_iff_ne]
      intro q
      have := Value.ref.inj q
      rw [Heap.size_push] at this
      rw [this] at hlt
      exact Nat.not_succ_lt_self hlt
    rw [if_pos hne]
    refine wpAny_bind (wpAny_holding (wpAny_runValue (codeAny_builtin entry_unchain ?_)))
    unfold Builtin.«proto.unchain»
    have ho2 := (((Ext.push s.heap { cls := .type "tuple", data := .seq ([] : List Value).toArray }).trans (Ext.push _ { cls := .type "StopIteration", data := .fields (#[.ref s.heap.objs.size, .none, .none, .none, .bool false, .none] ++ ownMembersOf (.type "StopIteration") []) })) _ _ ho)
    dsimp only
    refine wpAny_bind (wpAny_field ho2 hd hv ?_)
    rw [if_pos (by decide)]
    show wpAny _ _ (ret Value.none) _ _ _
    refine wpAny_pure ?_
    dsimp only
    refine wpAny_bind ?_
    unfold updateField
    have hx : ((s.heap.push { cls := .type "tuple", data := .seq ([] : List Value).toArray }).push { cls := .type "StopIteration", data := .fields (#[.ref s.heap.objs.size, .none, .none, .none, .bool false, .none] ++ ownMembersOf (.type "StopIteration") []) }).get? (s.heap.push { cls := .type "tuple", data := .seq ([] : List Value).toArray }).objs.size = some { cls := .type "StopIteration", data := .fields (#[.ref s.heap.objs.size, .none, .none, .none, .bool false, .none] ++ ownMembersOf (.type "StopIteration") []) } := Heap.get?_push_size _ rfl
    refine wpAny_bind (wpAny_load hx ?_)
    dsimp only
    rw [if_pos (by show 2 < 6; decide)]
    refine wpAny_update hx (wpAny_throw ?_)
    refine h _ _ _ (fun b o hb => ?_) (Heap.get?_update_self _ hx rfl) rfl
    rw [Heap.get?_update_other _ _ (by
      have := Heap.lt_size hb
      rw [Heap.size_push]
      exact Nat.ne_of_gt (Nat.lt_succ_of_lt this))]
    exact ((Ext.push _ _).trans (Ext.push _ _)) _ _ hb
/-! a set, walked -/
structure RawSet (w : World) (h : Heap) (a : Addr) (es : Array (Int × Value)) (ep : Nat) (t : SetTable) : Prop where
  at_ : h.get? a = some (setObj es ep t)
  fits : t.fits es.size = true
  plain : t.plain = true
  led : t.led = !byText w
  rising : t.place.toList.Pairwise (· < ·)
theorem RawSet.ext {h h' : Heap} {a : Addr} {es : Array (Int × Value)} {ep : Nat} {t : SetTable} (x : RawSet w h a es ep t) (k : ∀ o, h.get? a = some o → h'.get? a = some o) : RawSet w h' a es ep t := { x with at_ := k _ x.at_ }
def slotR (bt : Bool) (t : SetTable) (i : Nat) : Nat := if bt then 0 else if i = 0 then 0 else t.place.getD (i - 1) 0 + 1
theorem RawSet.size {h : Heap} {a : Addr} {es : Array (Int × Value)} {ep : Nat} {t : SetTable} (x : RawSet w h a es ep t) : t.place.size = es.size := by
  have := x.fits
  simp only [SetTable.fits, Bool.and_eq_true, beq_iff_eq] at this
  exact this.1
theorem RawSet.below {h : Heap} {a : Addr} {es : Array (Int × Value)} {ep : Nat} {t : SetTable} (x : RawSet w h a es ep t) {i : Nat} (hi : i ≤ es.size) : SetTable.below t.place (slotR false t i) = i := by
  obtain ⟨h1, h2, h3⟩ := below_spec x.rising (slotR false t i)
  have hs := x.size
  unfold slotR at *
  simp only [Bool.false_eq_true, if_false] at *
  by_cases hi0 : i = 0
  · subst hi0
    simp only [if_true] at *
    refine Nat.eq_zero_of_not_pos fun hp => ?_
    have hl : 0 < t.place.size := by omega
    have := h2 0 _ hp (Array.getElem?_eq_getElem hl)
    omega
  · simp only [if_neg hi0] at h1 h2 h3 ⊢
    have hl : i - 1 < t.place.size := by omega
    have hg : t.place.getD (i - 1) 0 = t.place[i - 1] := by rw [Array.getD_eq_getD_getElem?, Array.getElem?_eq_getElem hl]; rfl
    rw [hg] at h1 h2 h3 ⊢
    rcases Nat.lt_trichotomy (SetTable.below t.place (t.place[i - 1] + 1)) i with q | q | q
    · have := h3 (i - 1) _ (by omega) (Array.getElem?_eq_getElem hl)
      omega
    · exact q
    · have hl2 : i < t.place.size := by omega
      have e1 := h2 i _ q (Array.getElem?_eq_getElem hl2)
      have := List.pairwise_iff_getElem.mp x.rising (i - 1) i (by rw [Array.length_toList]; omega) (by rw [Array.length_toList]; omega) (by omega)
      simp only [Array.getElem_toList] at this
      omega
theorem raw_next {a : Addr} {es : Array (Int × Value)} {ep i : Nat} {t : SetTable} {Q : Option (Value × Nat) → Shared → Prop} {E : Value → Shared → Prop} (x : RawSet w s.heap a es ep t) (hi : i ≤ es.size)
    (h : Q (((walkOf w a ep es)[i]?).map fun e => (e.2, slotR (byText w) t (i + 1))) s) : wpAny (model P w) A (setNext a (slotR (byText w) t i) i ep) Q E s := by
  have g := x.at_
  have hfit := x.fits
  unfold setNext
  refine wpAny_bind (wpAny_setState_of g rfl hfit ?_)
  dsimp only
  unfold setsByText
  refine wpAny_bind (wpAny_bind (wpAny_askSetting (wpAny_pure ?_)))
  dsimp only
  show wpAny _ _ (if byText w = true then _ else _) _ _ _
  cases hb : byText w with
  | true =>
    rw [if_pos rfl]
    simp only [bne_self_eq_false, Bool.false_eq_true, if_false]
    unfold setWalk setsByText
    refine wpAny_bind (wpAny_bind (wpAny_setState_of g rfl hfit ?_))
    dsimp only
    refine wpAny_bind (wpAny_bind (wpAny_askSetting (wpAny_pure ?_)))
    dsimp only
    show wpAny _ _ (if byText w = true then _ else _) _ _ _
    rw [if_pos hb]
    refine wpAny_bind (wpAny_askSetting (wpAny_pure ?_))
    refine wpAny_pure ?_
    have e1 : walkOf w a ep es = pickOrder (w.params.setOrder a ep) es := by unfold walkOf; rw [if_pos hb]
    have e2 : slotR (byText w) t (i + 1) = slotR true t i := by rw [hb]; rfl
    rw [e1, e2] at h
    exact h
  | false =>
    rw [if_neg (by decide)]
    have e1 : walkOf w a ep es = es := by unfold walkOf; rw [if_neg (by rw [hb]; decide)]
    rw [e1, hb] at h
    have hl : t.led = true := by rw [x.led, hb]; rfl
    show wpAny _ _ (if (!t.plain && decide (es.size > 1)) = true then _ else _) _ _ _
    rw [if_neg (by rw [x.plain]; simp)]
    refine wpAny_bind ?_
    show wpAny _ _ (if (!t.led && !es.isEmpty) = true then _ else _) _ _ _
    rw [if_neg (by rw [hl]; simp)]
    refine wpAny_pure ?_
    rw [x.below hi]
    refine wpAny_pure ?_
    by_cases hlt : i < es.size
    · have h1 : es[i]? = some es[i] := Array.getElem?_eq_getElem hlt
      have hp : i < t.place.size := by rw [x.size]; exact hlt
      rw [h1] at h ⊢
      rw [Array.getElem?_eq_getElem hp]
      have e3 : slotR false t (i + 1) = t.place[i] + 1 := by
        unfold slotR
        simp [Array.getD_eq_getD_getElem?, Array.getElem?_eq_getElem hp]
      simp only [Option.map_some, e3] at h
      exact h
    · have h1 : es[i]? = none := Array.getElem?_eq_none (by omega)
      rw [h1] at h ⊢
      exact h
end
end Mine
end
section
open PySem PySem.W PyProof.Rows PySem.SeqAt
set_option maxRecDepth 10000
set_option autoImplicit false
set_option linter.unusedVariables false
namespace Mine
section
variable {P : Program} {w : World} {A : Around} {s : Shared}
theorem walk_size (w : World) (a : Addr) (ep : Nat) (es : Array (Int × Value)) : (walkOf w a ep es).size = es.size := by
  have := (walk_perm w a ep es).length_eq
  simpa using this
theorem raw_pyNext {I a : Addr} {es : Array (Int × Value)} {ep i : Nat} {t : SetTable} {E : Value → Shared → Prop} (hA : HOk A s.heap) (hI : ∀ e, A.handled = some (.ref e) → e ≠ I) (x : RawSet w s.heap a es ep t) (gI : s.heap.get? I = some (setIt a es.size ep (slotR (byText w) t i) i)) (hi : i ≤ es.size) :
    wpAny (model P w) A (pyNext (.ref I)) (fun r s' => (∃ h', s' = { s with heap := h' } ∧ Heap.ExtBut I s.heap h') ∧ match r with
      | none => i = es.size
      | some c => ∃ e, (walkOf w a ep es)[i]? = some e ∧ c = e.2 ∧ s'.heap.get? I = some (setIt a es.size ep (slotR (byText w) t (i + 1)) (i + 1))) E s := by
  have g := x.at_
  unfold pyNext
  refine wpAny_bind (wpAny_attempt (wpAny_callSpecial?_slot (name := Str.ofString "__next__") ⟨_, gI, rfl⟩ slot_setit
    (wpAny_call_entry slot_setit ⟨_, gI, rfl⟩ entry_setit ?_ (args_setit _))))
  unfold Builtin.«set_iterator.__next__» slotArgs
  simp only [List.isEmpty_nil, Bool.not_true, Bool.false_eq_true, ↓reduceIte, List.length_nil, bne_self_eq_false]
  refine wpAny_bind (wpAny_pure ?_)
  dsimp only
  refine wpAny_bind (wpAny_fieldsOf gI rfl ?_)
  dsimp only [rawInt]
  refine wpAny_bind (wpAny_setEntries_of g rfl x.fits ?_)
  simp only [bne_self_eq_false, Bool.false_eq_true, if_false, Int.toNat_natCast]
  refine wpAny_bind (raw_next x hi ?_)
  by_cases hlt : i < es.size
  · have hw : (walkOf w a ep es)[i]? = some ((walkOf w a ep es)[i]'(by rw [walk_size]; exact hlt)) := Array.getElem?_eq_getElem _
    rw [hw]
    dsimp only [Option.map_some]
    refine wpAny_bind (wpAny_setField_rec gI (by simp) fun h1 g1 sb1 => ?_)
    refine wpAny_bind (wpAny_setField_rec (s := { s with heap := h1 }) g1 (by simp) fun h2 g2 sb2 => ?_)
    refine wpAny_pure ⟨_, rfl, wpAny_pure ?_⟩
    refine ⟨⟨h2, rfl, (sb1.trans sb2).extBut⟩, _, rfl, rfl, ?_⟩
    show h2.get? I = _
    rw [g2]
    simp [setIt, rawInt]
  · have hw : (walkOf w a ep es)[i]? = none := Array.getElem?_eq_none (by rw [walk_size]; omega)
    rw [hw]
    dsimp only [Option.map_none]
    refine wpAny_bind (wpAny_setField_rec gI (by simp) fun h1 g1 sb1 => ?_)
    have hok : HOk A.in1 h1 := hA.ext fun e oe he ho => (sb1.2 e (hI e he)).trans ho
    refine stop_raised (s := { s with heap := h1 }) hok fun h' y ob hx hy hc => ?_
    dsimp only
    refine wpAny_bind (wpAny_isInstance (T := "StopIteration") (b := true) ⟨_, hy, hc⟩ isSubtype_stop ?_)
    exact wpAny_pure ⟨⟨h', rfl, fun b o hb e => hx _ _ (sb1.extBut b o hb e)⟩, by omega⟩
theorem raw_loop {I S a : Addr} {es : Array (Int × Value)} {ep : Nat} {t : SetTable} (res : Value) {R : Result → Shared → Prop} (hIS : I ≠ S) (haS : a ≠ S) (haI : a ≠ I) (hI : ∀ e, A.handled = some (.ref e) → e ≠ I ∧ e ≠ S) :
    ∀ (n i k : Nat) (vs : Array Value) (s : Shared), es.size - i = n → i ≤ es.size → HOk A s.heap → RawSet w s.heap a es ep t → s.heap.get? I = some (setIt a es.size ep (slotR (byText w) t i) i) → s.heap.get? S = some (listOf vs k) → vs.size + n < sizeLine →
      (∀ h' vs' k', (∀ b o, b ≠ S → b ≠ I → s.heap.get? b = some o → h'.get? b = some o) → h'.get? S = some (listOf vs' k') → vs'.toList = vs.toList ++ ((walkOf w a ep es).toList.drop i).map (·.2) → R (.ok (.ret res)) { s with heap := h' }) →
      codeAny (model P w) A (.builtin "list.extend.loop" ⟨[.ref S, .ref I, res], []⟩) R s := by
  intro n
  induction n with
  | zero =>
    intro i k vs s hni hi hA x gI gS hlen hq
    refine codeAny_builtin PySem.F.entry_extend_loop ?_
    rw [Around.under_plainId PySem.F.plain_extend_loop _]
    show wpAny _ A.in1 (pyNext (.ref I) >>= _) _ _ s
    refine wpAny_bind (wpAny_mono (raw_pyNext (A := A.in1) hA (fun e he => (hI e he).1) x gI hi) (fun r s' ⟨⟨h', e, hx⟩, hr⟩ => ?_) fun _ _ y => y)
    subst e
    cases r with
    | none =>
      show wpAny _ A.in1 (ret res) _ _ _
      refine wpAny_pure (hq h' vs k (fun b o _ hb e => hx b o hb e) (hx _ _ (Ne.symm hIS) gS) ?_)
      rw [List.drop_of_length_le (by rw [Array.length_toList, walk_size]; omega)]; simp
    | some c =>
      obtain ⟨e, he, _⟩ := hr
      have := (Array.getElem?_eq_some_iff.mp he).1
      rw [walk_size] at this; omega
  | succ n ih =>
    intro i k vs s hni hi hA x gI gS hlen hq
    have hlt : i < es.size := by omega
    refine codeAny_builtin PySem.F.entry_extend_loop ?_
    rw [Around.under_plainId PySem.F.plain_extend_loop _]
    show wpAny _ A.in1 (pyNext (.ref I) >>= _) _ _ s
    refine wpAny_bind (wpAny_mono (raw_pyNext (A := A.in1) hA (fun e he => (hI e he).1) x gI hi) (fun r s' ⟨⟨h', e, hx⟩, hr⟩ => ?_) fun _ _ y => y)
    subst e
    cases r with
    | none => omega
    | some c =>
      obtain ⟨e, he, rfl, gI'⟩ := hr
      show wpAny _ A.in1 (Builtin.List.listUpdate (.ref S) (·.push e.2) >>= _) _ _ _
      have gS' := hx _ _ (Ne.symm hIS) gS
      refine wpAny_bind (listUpdate_at (s := { s with heap := h' }) gS' rfl ?_ (by omega) (by rw [Array.size_push]; omega))
      have sb := Heap.SameBut.update h' S (Obj.mapSeq (·.push e.2))
      have gS2 := Heap.get?_update_self (Obj.mapSeq (·.push e.2)) gS' rfl
      refine wpAny_pure ⟨plainId_quiet PySem.F.plain_extend_loop _, ih (i + 1) _ (vs.push e.2) _ (by omega) (by omega) (hA.ext fun y oe hy ho => (sb.2 _ (hI y hy).2).trans (hx _ _ (hI y hy).1 ho)) (x.ext fun o ho => (sb.2 _ haS).trans (hx _ _ haI ho)) ((sb.2 _ hIS).trans gI') gS2 (by rw [Array.size_push]; omega) fun h2 vs2 k2 e1 e2 e3 => ?_⟩
      refine hq h2 vs2 k2 (fun b o hb1 hb2 hb => e1 b o hb1 hb2 ((sb.2 _ hb1).trans (hx _ _ hb2 hb))) e2 ?_
      rw [e3, Array.toList_push]
      have hw : (walkOf w a ep es).toList.drop i = e :: (walkOf w a ep es).toList.drop (i + 1) := by
        have hl : i < (walkOf w a ep es).toList.length := by rw [Array.length_toList, walk_size]; exact hlt
        rw [List.drop_eq_getElem_cons hl]
        congr 1
        rw [← Array.getElem?_toList, List.getElem?_eq_getElem hl] at he
        exact Option.some.inj he
      rw [hw]; simp
theorem raw_hint {a : Addr} {Q : Bool → Shared → Prop} {E : Value → Shared → Prop} (hT : s.TypeIs (.ref a) "set") (h : Q false s) : wpAny (model P w) A (Builtin.List.listLengthHint (.ref a)) Q E s := by
  unfold Builtin.List.listLengthHint
  refine wpAny_bind (wpAny_specialOf hT PySem.F.slot_set_len.lookup ?_)
  generalize hid : ("set.__len__" : String) = id0
  wp_delta
  rw [show splitId id0 = some ("set", "__len__") from by subst hid; decide +kernel]
  subst hid
  refine wpAny_bind (wpAny_isInstance (T := "set") (b := true) hT (by rw [isSubtype_type]; kernel_rfl) ?_)
  refine wpAny_ite_split (fun hab => absurd hab (by decide)) (fun _ => ?_)
  refine wpAny_ite_split (fun _ => ?_) (fun hab => absurd (by decide +kernel) hab)
  refine wpAny_bind (wpAny_typeOf hT ?_)
  exact wpAny_pure h
theorem raw_iter {a : Addr} {es : Array (Int × Value)} {ep : Nat} {t : SetTable} {Q : Value → Shared → Prop} {E : Value → Shared → Prop} (x : RawSet w s.heap a es ep t)
    (h : Q (.ref s.heap.objs.size) { s with heap := s.heap.push (setIt a es.size ep 0 0) }) : wpAny (model P w) A (pyIter (.ref a)) Q E s := by
  have g := x.at_
  have hfit := x.fits
  have hT : s.TypeIs (.ref a) "set" := ⟨_, g, rfl⟩
  refine wpAny_pyIter_slot hT PySem.F.slot_set_iter (wpAny_call_entry PySem.F.slot_set_iter hT entry_set_iter ?_ (PySem.F.args_set_iter_1 _))
  unfold Builtin.«frozenset.__iter__» Builtin.Frozenset.slot0 slotArgs
  simp only [List.isEmpty_nil, Bool.not_true, Bool.false_eq_true, ↓reduceIte, List.length_nil, bne_self_eq_false]
  unfold Builtin.Frozenset.addrOf Builtin.Frozenset.sizeOf
  refine wpAny_bind (wpAny_bind (wpAny_pure (wpAny_pure ?_)))
  refine wpAny_bind (wpAny_bind (wpAny_setEntries_of g rfl hfit (wpAny_pure ?_)))
  refine wpAny_bind ?_
  unfold setDrawn setsByText
  refine wpAny_bind (wpAny_setState_of g rfl hfit ?_)
  dsimp only
  refine wpAny_bind (wpAny_bind (wpAny_askSetting (wpAny_pure ?_)))
  refine wpAny_pure ?_
  have hnd : ∀ b : Bool, (!b && (!t.plain && decide (es.size > 1))) = false := fun b => by rw [x.plain]; cases b <;> rfl
  show wpAny _ _ (if (!byText w && (!t.plain && decide (es.size > 1))) = true then _ else _) _ _ _
  rw [hnd]
  simp only [Bool.false_eq_true, if_false]
  refine wpAny_bind (wpAny_pure ?_)
  refine wpAny_bind (wpAny_setEpoch_of g rfl hfit ?_)
  unfold newFields
  refine wpAny_bind (wpAny_newObj_type (wpAny_pure ?_))
  exact ⟨_, rfl, "set_iterator", _, ⟨_, Heap.get?_push_size _ rfl, rfl⟩, slot_setit.lookup, h⟩
/-- the items of a set, in its order -/
theorem raw_collect {a : Addr} {es : Array (Int × Value)} {ep : Nat} {t : SetTable} {Q : List Value → Shared → Prop} {E : Value → Shared → Prop} (hA : HOk A s.heap) (x : RawSet w s.heap a es ep t) (hsz : es.size < 1000)
    (h : ∀ h', Ext s.heap h' → Q ((walkOf w a ep es).toList.map (·.2)) { s with heap := h' }) : wpAny (model P w) A (collect (.ref a)) Q E s := by
  have hsl : sizeLine = 2 ^ 24 := rfl
  have halt := Heap.lt_size x.at_
  have hlt : ∀ e, A.handled = some (.ref e) → e < s.heap.objs.size := fun e he => by
    rcases hA with q | ⟨e', oe, vs, q, ho, _⟩
    · rw [q] at he; cases he
    · rw [q] at he; cases he; exact Heap.lt_size ho
  unfold collect
  refine wpAny_bind (wpAny_runValue (codeAny_mono (R := fun r s' => r = .ok (.ret (.ref s.heap.objs.size)) ∧ ∃ h' vs k, s' = { s with heap := h' } ∧ Ext s.heap h' ∧ h'.get? s.heap.objs.size = some (listOf vs k) ∧ vs.toList = (walkOf w a ep es).toList.map (·.2)) (codeAny_builtin entry_proto_collect' ?_) fun r s' hr => ?_))
  rotate_left
  · obtain ⟨rfl, h', vs, k, rfl, hx, g, e⟩ := hr
    dsimp only
    refine wpAny_bind (wpAny_load g ?_)
    dsimp only
    refine wpAny_pure ?_
    rw [e]; exact h h' hx
  rw [Around.under_plainId plain_coll _]
  show wpAny _ _ (do again (.builtin "list.__iadd__" ⟨[← newList [], .ref a], []⟩)) _ _ s
  refine wpAny_bind (wpAny_newList (wpAny_pure ⟨Code.quiet_builtin _ (by decide +kernel), codeAny_builtin entry_list_iadd' ?_⟩))
  rw [Around.under_plainId plain_iadd _]
  show wpAny _ _ (Builtin.List.listExtendWith (.ref s.heap.objs.size) (.ref a) (.ref s.heap.objs.size)) _ _ { s with heap := s.heap.push (listOf #[] 0) }
  have x1 : RawSet w (s.heap.push (listOf #[] 0)) a es ep t := x.ext fun o => Ext.push _ _ _ _
  have hT : Shared.TypeIs { s with heap := s.heap.push (listOf #[] 0) } (.ref a) "set" := ⟨_, x1.at_, rfl⟩
  have haS : a ≠ s.heap.objs.size := Nat.ne_of_lt halt
  unfold Builtin.List.listExtendWith
  refine wpAny_bind (wpAny_typeOf hT ?_)
  have hsame : Builtin.List.listSameRef (.ref s.heap.objs.size) (.ref a) = false := by
    unfold Builtin.List.listSameRef
    simpa using Ne.symm haS
  have c1 : (Value.type "set" == Value.type "list") = false := by decide
  have c2 : (Value.type "set" == Value.type "tuple") = false := by decide
  simp only [hsame, c1, c2, Bool.or_false, Bool.false_eq_true, if_false]
  refine wpAny_bind (raw_iter (s := { s with heap := s.heap.push (listOf #[] 0) }) x1 ?_)
  have hp1 : (s.heap.push (listOf #[] 0)).objs.size = s.heap.objs.size + 1 := Heap.size_push _ _
  have x2 : RawSet w ((s.heap.push (listOf #[] 0)).push (setIt a es.size ep 0 0)) a es ep t := x1.ext fun o => Ext.push _ _ _ _
  have gS : ((s.heap.push (listOf #[] 0)).push (setIt a es.size ep 0 0)).get? s.heap.objs.size = some (listOf #[] 0) := Ext.push _ _ _ _ (Heap.get?_push_size _ rfl)
  have gI : ((s.heap.push (listOf #[] 0)).push (setIt a es.size ep 0 0)).get? (s.heap.push (listOf #[] 0)).objs.size = some (setIt a es.size ep (slotR (byText w) t 0) 0) := by
    have : slotR (byText w) t 0 = 0 := by unfold slotR; split <;> rfl
    rw [this]; exact Heap.get?_push_size _ rfl
  have hok : HOk A ((s.heap.push (listOf #[] 0)).push (setIt a es.size ep 0 0)) := hA.ext fun e oe _ ho => Ext.push _ _ _ _ (Ext.push _ _ _ _ ho)
  have hIS : (s.heap.push (listOf #[] 0)).objs.size ≠ s.heap.objs.size := by rw [hp1]; exact Nat.succ_ne_self _
  have haI : a ≠ (s.heap.push (listOf #[] 0)).objs.size := by rw [hp1]; exact Nat.ne_of_lt (Nat.lt_succ_of_lt halt)
  have hIe : ∀ e, A.handled = some (.ref e) → e ≠ (s.heap.push (listOf #[] 0)).objs.size ∧ e ≠ s.heap.objs.size := fun e he => by
    have := hlt e he
    rw [hp1]
    exact ⟨Nat.ne_of_lt (Nat.lt_succ_of_lt this), Nat.ne_of_lt this⟩
  refine wpAny_bind (wpAny_holding (raw_hint ⟨_, x2.at_, rfl⟩ ?_))
  have key : ∀ h3, (∀ b o, b ≠ s.heap.objs.size → ((s.heap.push (listOf #[] 0)).push (setIt a es.size ep 0 0)).get? b = some o → h3.get? b = some o) → (∃ k, h3.get? s.heap.objs.size = some (listOf #[] k)) →
      codeAny (model P w) A (.builtin "list.extend.loop" ⟨[.ref s.heap.objs.size, .ref (s.heap.push (listOf #[] 0)).objs.size, .ref s.heap.objs.size], []⟩)
        (fun r s' => r = .ok (.ret (.ref s.heap.objs.size)) ∧ ∃ h' vs k, s' = { s with heap := h' } ∧ Ext s.heap h' ∧ h'.get? s.heap.objs.size = some (listOf vs k) ∧ vs.toList = (walkOf w a ep es).toList.map (·.2)) { s with heap := h3 } := fun h3 k3 ⟨k, g3⟩ =>
    raw_loop _ hIS haS haI hIe es.size 0 k #[] { s with heap := h3 } (by omega) (by omega) (hok.ext fun e oe he ho => k3 _ _ (hIe e he).2 ho) (x2.ext fun o ho => k3 _ _ haS ho) (k3 _ _ hIS gI) g3 (by simp; omega)
      fun h' vs k' e1 e2 e3 => ⟨rfl, h', vs, k', rfl, fun b o hb => e1 b o (Nat.ne_of_lt (Heap.lt_size hb)) (by rw [hp1]; exact Nat.ne_of_lt (Nat.lt_succ_of_lt (Heap.lt_size hb))) (k3 _ _ (Nat.ne_of_lt (Heap.lt_size hb)) (Ext.push _ _ _ _ (Ext.push _ _ _ _ hb))), e2, by simpa using e3⟩
  refine wpAny_ite_split (fun _ => ?_) (fun _ => wpAny_pure ⟨plainId_quiet PySem.F.plain_extend_loop _, key _ (fun b o _ e => e) ⟨0, gS⟩⟩)
  refine wpAny_bind (wpAny_rule (wpAny_bind ?_))
  unfold Builtin.List.listTouch
  refine wpAny_bind (listUpdate_at (s := { s with heap := _ }) gS rfl ?_ (by simp) (by simp))
  have g4 := Heap.get?_update_self (Obj.mapSeq (·.push Value.none)) gS rfl
  refine listUpdate_at (s := { s with heap := _ }) g4 rfl ?_ (by show 1 ≤ sizeLine; omega) (by show 0 ≤ sizeLine + 1; omega)
  have g5 := Heap.get?_update_self (Obj.mapSeq (·.pop)) g4 rfl
  refine wpAny_pure ⟨plainId_quiet PySem.F.plain_extend_loop _, key _ (fun b o hb e => ?_) ⟨_, g5⟩⟩
  exact (Heap.get?_update_other _ _ (Ne.symm hb)).trans ((Heap.get?_update_other _ _ (Ne.symm hb)).trans e)
end
end Mine
end
section
open PySem PySem.W PyProof.Rows PySem.SeqAt
set_option maxRecDepth 10000
set_option autoImplicit false
set_option linter.unusedVariables false
namespace Mine
section
variable {C : Cx} {A : Around} {s : Shared}
theorem raw_sorted_ints {a : Addr} {es : Array (Int × Value)} {ep : Nat} {t : SetTable} {l : List Int} {Q : Value → Shared → Prop} (hA : HOk A s.heap) (x : RawSet C.w s.heap a es ep t) (r : IEnts es.toList l) (hl : l.length < 64)
    (h : ∀ h' b vs k (ms : List Int), Ext s.heap h' → s.heap.get? b = none → h'.get? b = some (listOf vs k) → VReps h' (ms.map .int) vs.toList → ms.Perm l → ms.Pairwise (· ≤ ·) → Q (.ref b) { s with heap := h' }) :
    W C A (call (.builtin "sorted") [.ref a]) Q s := by
  have hlen := r.length
  rw [Array.length_toList] at hlen
  refine Calls.call_function_entry kind_sorted plain_sorted entry_sorted (args_sorted1 _) ?_
  unfold Builtin.«sorted»
  refine wpAny_bind (m := checkCount "sorted" 1 1 _) (wpAny_pure ?_)
  refine wpAny_bind (raw_collect (A := A.in1) hA x (by omega) fun h1 e1 => ?_)
  obtain ⟨m, rm, pm⟩ := r.perm (walk_perm C.w a ep es)
  have hml : m.length = l.length := pm.length_eq
  have hvl : ((walkOf C.w a ep es).toList.map (·.2)).length = m.length := by
    rw [List.length_map, rm.length]
  have hI : IntsAre ((walkOf C.w a ep es).toList.map (·.2)) m := VReps.ints.mp (rm.values (h := s.heap))
  generalize hvs : (walkOf C.w a ep es).toList.map (·.2) = vs at *
  refine wpAny_bind (wpAny_newList ?_ (by have : sizeLine = 2 ^ 24 := rfl; omega))
  have hoL : (h1.push (seqObj "list" vs.toArray 0)).get? h1.objs.size = some (seqObj "list" vs.toArray 0) := Heap.get?_push_size _ rfl
  have hle : s.heap.get? h1.objs.size = none := by
    cases q : s.heap.get? h1.objs.size with
    | none => rfl
    | some o => exact absurd (Heap.lt_size (e1 _ _ q)) (Nat.lt_irrefl _)
  refine wpAny_bind (wpAny_holding (wpAny_call_entry slot_list_sort ⟨_, hoL, rfl⟩ entry_list_sort (list_sort_tree (s := { s with heap := _ }) hoL hI (by omega) fun out ns' a1 a2 a3 => ⟨_, rfl, ?_⟩) (args_list_sort _)))
  obtain ⟨k, hk⟩ := sortedHeap_at (out := out) hoL
  refine wpAny_pure ⟨_, rfl, h _ _ out k ns' (fun b o hb => ?_) hle hk (VReps.ints.mpr a1) (a2.trans pm) a3⟩
  have := Heap.lt_size (e1 _ _ hb)
  rw [sortedHeap_old (Nat.ne_of_lt this) (by rw [Heap.size_push]; exact Nat.lt_succ_of_lt this)]
  exact Heap.get?_push_of_some _ (e1 _ _ hb)
theorem raw_sorted_pairs {a : Addr} {es : Array (Int × Value)} {ep : Nat} {t : SetTable} {l : List (Int × Int)} {Q : Value → Shared → Prop} (hA : HOk A s.heap) (x : RawSet C.w s.heap a es ep t) (r : PEnts s.heap es.toList l) (hl : l.length < 64) (hnd : l.Nodup) (h5 : ∀ p ∈ l, Low5 p)
    (h : ∀ h' b vs k (ms : List (Int × Int)), Ext s.heap h' → s.heap.get? b = none → h'.get? b = some (listOf vs k) → VReps h' (ms.map .pair) vs.toList → ms.Perm l → ms.Pairwise (fun p q => code p ≤ code q) → Q (.ref b) { s with heap := h' }) :
    W C A (call (.builtin "sorted") [.ref a]) Q s := by
  have hlen := r.length
  rw [Array.length_toList] at hlen
  refine Calls.call_function_entry kind_sorted plain_sorted entry_sorted (args_sorted1 _) ?_
  unfold Builtin.«sorted»
  refine wpAny_bind (m := checkCount "sorted" 1 1 _) (wpAny_pure ?_)
  refine wpAny_bind (raw_collect (A := A.in1) hA x (by omega) fun h1 e1 => ?_)
  obtain ⟨m, rm, pm⟩ := (r.t e1.t).perm (walk_perm C.w a ep es)
  have hml : m.length = l.length := pm.length_eq
  have hvl : ((walkOf C.w a ep es).toList.map (·.2)).length = m.length := by
    rw [List.length_map, rm.length]
  have hI := rm.values
  generalize hvs : (walkOf C.w a ep es).toList.map (·.2) = vs at *
  refine wpAny_bind (wpAny_newList ?_ (by have : sizeLine = 2 ^ 24 := rfl; omega))
  have hoL : (h1.push (seqObj "list" vs.toArray 0)).get? h1.objs.size = some (seqObj "list" vs.toArray 0) := Heap.get?_push_size _ rfl
  have hle : s.heap.get? h1.objs.size = none := by
    cases q : s.heap.get? h1.objs.size with
    | none => rfl
    | some o => exact absurd (Heap.lt_size (e1 _ _ q)) (Nat.lt_irrefl _)
  refine wpAny_bind (wpAny_holding (wpAny_call_entry slot_list_sort ⟨_, hoL, rfl⟩ entry_list_sort (list_sort_pairs (s := { s with heap := _ }) hoL (hI.t (Ext.push _ _).t) (pm.nodup_iff.mpr hnd) (fun p hp => h5 p (pm.mem_iff.mp hp)) (by omega) fun out ns' a1 a2 a3 => ⟨_, rfl, ?_⟩) (args_list_sort _)))
  obtain ⟨k, hk⟩ := sortedHeap_at (out := out.toArray) hoL
  have old : ∀ b o, h1.get? b = some o → (sortedHeap (h1.push (seqObj "list" vs.toArray 0)) h1.objs.size vs out.toArray).get? b = some o := fun b o hb => by
    have := Heap.lt_size hb
    rw [sortedHeap_old (Nat.ne_of_lt this) (by rw [Heap.size_push]; exact Nat.lt_succ_of_lt this)]
    exact Heap.get?_push_of_some _ hb
  have tx : TExt (h1.push (seqObj "list" vs.toArray 0)) (sortedHeap (h1.push (seqObj "list" vs.toArray 0)) h1.objs.size vs out.toArray) := fun b ws n e => by
    by_cases q : b = h1.objs.size
    · subst q; rw [hoL] at e
      exact absurd (Value.type.inj (congrArg Obj.cls (Option.some.inj e))) (by decide)
    · have hb : h1.get? b = some (tupObj ws n) := by rwa [Heap.get?_push_ne _ _ _ q] at e
      exact old _ _ hb
  exact wpAny_pure ⟨_, rfl, h _ _ out.toArray k ns' (fun b o hb => old b o (e1 _ _ hb)) hle hk (a1.t tx) (a2.trans pm) a3⟩
end
theorem dt1 {p : Prop} (d : Decidable p) (h : p) : @decide p d = true := decide_eq_true h
theorem df1 {p : Prop} (d : Decidable p) (h : ¬ p) : @decide p d = false := decide_eq_false h
/-! the same of held sets -/
theorem WSet.raw {w : World} {h : Heap} {a : Addr} {l : List Int} (x : ISet w h a l) : ∃ es ep t, RawSet w h a es ep t ∧ IEnts es.toList l ∧ l.length ≤ 5 := by
  obtain ⟨es, ep, g, r, hp, hm⟩ := x
  have hlen := r.length
  rw [Array.length_toList] at hlen
  have hfit : (cfg (!byText w) l).fits es.size = true := by rw [hlen]; exact cfg_fits hp hm
  have h5 : l.length ≤ 5 := by
    have : ∀ l ∈ subs five, l.length ≤ 5 := by decide +kernel
    exact this l (sub5 hp hm)
  refine ⟨es, ep, _, ⟨g, hfit, rfl, rfl, ?_⟩, r, h5⟩
  show ((l.map Int.toNat)).Pairwise (· < ·)
  rw [List.pairwise_map]
  refine (List.Pairwise.and_mem.mp hp).imp fun {a b} h => ?_
  have := hm a h.1
  have := hm b h.2.1
  have := h.2.2
  omega
theorem PSet.raw {w : World} {h : Heap} {a : Addr} {l : List (Int × Int)} (x : PSet w h a l) : ∃ es ep t, RawSet w h a es ep t ∧ PEnts h es.toList l ∧ l.Nodup ∧ (∀ p ∈ l, Low5 p) ∧ l.length < 16 := by
  obtain ⟨es, ep, t, g, r, hn, h5, P, hled⟩ := x
  have hlen := r.length
  rw [Array.length_toList] at hlen
  have hfit : t.fits es.size = true := by rw [hlen, ← List.length_map (f := pairHash)]; exact P.fits
  refine ⟨es, ep, t, ⟨g, hfit, P.plain, hled, P.rising⟩, r, hn, h5, ?_⟩
  have := P.mask
  rw [List.length_map] at this
  omega
/-- the sorted list of a set of pairs -/
theorem codeSort_uniq {l m m' : List (Int × Int)} (h5 : ∀ p ∈ l, Low5 p) (h : m.Perm l) (hs : m.Pairwise (fun p q => code p ≤ code q)) (h' : m'.Perm l) (hs' : m'.Pairwise (fun p q => code p ≤ code q)) : m = m' :=
  (h.trans h'.symm).eq_of_pairwise (fun a b ha hb h1 h2 => code_inj (h5 a (h.mem_iff.mp ha)) (h5 b (h'.mem_iff.mp hb)) (Int.le_antisymm h1 h2)) hs hs'
theorem setKP : SetK AV.pair .pset Low5 insP where
  emp := fun C h a g => ⟨[], ⟨#[], 0, _, g, trivial, List.nodup_nil, (fun x hx => nomatch hx), ⟨rfl, .nil, rfl, .inl ⟨rfl, by decide⟩, (fun j hj => (by simp [SetTable.fresh] at hj)), rfl, (fun i h hi => by simp at hi)⟩, rfl⟩, List.Perm.refl _⟩
  own := fun S => rfl
  ty := fun S => rfl
  len := fun S k => by unfold insP; split <;> simp
  add := fun C A env ρ H s a S k c Q hA R e hl hk hc h => add_pset (by have := hA.units; omega) R e (by omega) hk hc fun s' t R' => by
    have := h s' t R'
    by_cases hm : k ∈ S
    · rw [dt1 _ hm] at this ⊢; exact this
    · rw [df1 _ hm] at this ⊢; exact this
section
variable {C : Cx} {H : AHeap}
/-- sorted(s) of a set of pairs of the call's own -/
theorem TC_sorted_pset {a : Addr} {S : List (Int × Int)} {Q : AV → AHeap → Prop} (e : H a = some (.pset S)) (h : ∀ r (ms : List (Int × Int)), H r = none → ms.Perm S → ms.Pairwise (fun p q => code p ≤ code q) → Q (.ref r) (H.upd r (.list (ms.map .pair)))) : TC C (.builtin "sorted") [.ref a] H Q := fun A env ρ s vs ok R hv => by
  match vs, hv with
  | [va], ⟨h1, _⟩ =>
    obtain rfl := h1
    obtain ⟨⟨l, xs, hperm⟩, hB⟩ := R.hp a _ e
    obtain ⟨es, ep, t, x, r, hn, h5, hl⟩ := xs.raw
    refine raw_sorted_pairs (.inl ok.handled) x r (by omega) hn h5 fun h' b vs k ms ex hb g hr pm hs => ?_
    have R' : SRep C env ρ H { s with heap := h' } := R.to (tk := s.toks) ex
    have hbB : C.hB b = none := by
      cases q : C.hB b with
      | none => rfl
      | some o => obtain ⟨_, g2, _⟩ := R.keep _ _ q; rw [hb] at g2; cases g2
    have hbH : H b = none := by
      cases q : H b with
      | none => rfl
      | some o => obtain ⟨ob, g', _⟩ := (R.hp b o q).1.there; rw [hb] at g'; cases g'
    have hbL : b ≠ env.locals := fun q => by
      obtain ⟨m, hm, _⟩ := R.fr.ns
      obtain ⟨o, _, _, g', _⟩ := hm
      rw [← q, hb] at g'; cases g'
    exact ⟨ex.t, .ref b, _, rfl, R'.add (o := .list (ms.map .pair)) ⟨⟨vs, k, g, hr⟩, hbB⟩ hbL, h b ms hbH (pm.trans hperm) hs⟩
end
end Mine
end
section
open PySem PySem.W PyProof.Rows PySem.SeqAt
set_option maxRecDepth 10000
set_option autoImplicit false
set_option linter.unusedVariables false
namespace Mine
abbrev sc2 (elt t0 i0 t1 i1 : Expr) (scope : Scope) (pos : Pos) : Expr := .SetComp elt [⟨t0, i0, [], 0⟩, ⟨t1, i1, [], 0⟩] scope pos
theorem compTurn_sc0 (elt t0 i0 t1 i1 : Expr) (scope : Scope) (pos : Pos) (it acc : Value) (env : Env) :
    compTurn (sc2 elt t0 i0 t1 i1 scope pos) 0 it acc env = (do
      standAt i0.pos
      match ← pyNext it with
      | none => pure (.done .next)
      | some v =>
        letOwnedTupleGo t0 it v
        assign t0 env v
        let x ← eval i1 env
        standAt i1.pos
        let x ← foldedSetIterable i1 env x
        let _ ← runOwn (.compStart (sc2 elt t0 i0 t1 i1 scope pos) 1 (← holding [x] (pyIter x)) acc env) env
        again (.compLoop (sc2 elt t0 i0 t1 i1 scope pos) 0 it acc env)) := by rfl
theorem compTurn_sc1 (elt t0 i0 t1 i1 : Expr) (scope : Scope) (pos : Pos) (it acc : Value) (env : Env) :
    compTurn (sc2 elt t0 i0 t1 i1 scope pos) 1 it acc env = (do
      standAt i1.pos
      match ← pyNext it with
      | none => pure (.done .next)
      | some v =>
        letOwnedTupleGo t1 it v
        assign t1 env v
        (do let v ← eval elt env; standAt elt.pos; let _ ← call (.builtin "set.add") [acc, v])
        again (.compLoop (sc2 elt t0 i0 t1 i1 scope pos) 1 it acc env)) := by rfl
section
variable {prog : Program} {w : World} {A : Around} {R : Result → Shared → Prop} {s : Shared}
theorem codeAny_compStart_sc {elt t0 i0 t1 i1 : Expr} {scope : Scope} {pos : Pos} {d : Nat} {it acc : Value} {env : Env} (hd : d < 2)
    (h0 : codeAny (model prog w) A (.compLoop (sc2 elt t0 i0 t1 i1 scope pos) d it acc env) R s)
    (h : wpAny (model prog w) A (pyIter it) (fun it' s' => codeAny (model prog w) A (.compLoop (sc2 elt t0 i0 t1 i1 scope pos) d it' acc env) R s')
      (notedBy (model prog w) A env fun x s' => R (.error x) s') s) :
    codeAny (model prog w) A (.compStart (sc2 elt t0 i0 t1 i1 scope pos) d it acc env) R s := by
  refine codeAny_of_tree ?_
  have h2 : d = 0 ∨ d = 1 := by omega
  rcases h2 with rfl | rfl
  · show wpAny _ _ ((compStart (sc2 elt t0 i0 t1 i1 scope pos) 0 it acc env).onRaise (fun x => do noteFrame x env; standAt theWindowsPlace)) _ _ s
    refine wpAny_notedAt ?_
    unfold compStart
    show wpAny _ _ (ask >>= _) _ _ s
    refine wpAny_bind (wpAny_askSetting (wpAny_ite ?_))
    split
    · first
        | exact wpAny_bind (wpAny_pure (wpAny_pure (And.intro rfl h0)))
        | exact wpAny_pure (And.intro rfl h0)
    · first
        | exact wpAny_bind (wpAny_rule (wpAny_bind (wpAny_standAt (wpAny_bind (wpAny_mono h (fun it' s' h' => wpAny_pure (And.intro rfl h')) fun _ _ x => x)))))
        | (refine wpAny_bind (wpAny_rule ?_); show wpAny _ _ (standAt i0.pos >>= _) _ _ s; exact wpAny_bind (wpAny_standAt (wpAny_bind (wpAny_mono h (fun it' s' h' => wpAny_pure (And.intro rfl h')) fun _ _ x => x))))
  · show wpAny _ _ ((compStart (sc2 elt t0 i0 t1 i1 scope pos) 1 it acc env).onRaise (fun x => do noteFrame x env; standAt theWindowsPlace)) _ _ s
    refine wpAny_notedAt ?_
    unfold compStart
    show wpAny _ _ (ask >>= _) _ _ s
    refine wpAny_bind (wpAny_askSetting (wpAny_ite ?_))
    split
    · first
        | exact wpAny_bind (wpAny_pure (wpAny_pure (And.intro rfl h0)))
        | exact wpAny_pure (And.intro rfl h0)
    · first
        | exact wpAny_bind (wpAny_rule (wpAny_bind (wpAny_standAt (wpAny_bind (wpAny_mono h (fun it' s' h' => wpAny_pure (And.intro rfl h')) fun _ _ x => x)))))
        | (refine wpAny_bind (wpAny_rule ?_); show wpAny _ _ (standAt i1.pos >>= _) _ _ s; exact wpAny_bind (wpAny_standAt (wpAny_bind (wpAny_mono h (fun it' s' h' => wpAny_pure (And.intro rfl h')) fun _ _ x => x))))
end
section
variable {C : Cx} {A : Around} {env : Env} {ρ : Loc} {H : AHeap} {s : Shared}
/-- the frame of a comprehension stands -/
theorem inner_frameG {o0 : Obj} {ao0 : AObj} (h0 : ∀ h a, h.get? a = some o0 → Shape C.w h a ao0) (hz0 : ao0.fz = false) (hnf0 : o0.isFreed = false) {scope : Scope} {I : Addr} {ob : Obj} (k : C.Ok) (R : SRep C env ρ H s) (F : Free C env H I) (gI : s.heap.get? I = some ob) (good : CompGood C.sc scope) (hkind : scope.kind = .function) {h₁ : Heap} {tk : Nat}
    (hns : h₁.Ns (s.heap.objs.size + 1) fun _ => none) (hx : Ext (s.heap.push o0) h₁) :
    Inner C (C.inner scope I s.heap) scope ∧
    SRep (C.inner scope I s.heap) (compEnvC scope (clFrom env.cells scope.names []) (s.heap.objs.size + 1) env) (capt scope ρ) (H.fzAll.upd s.heap.objs.size ao0) { s with heap := h₁, toks := tk } ∧
    Free (C.inner scope I s.heap) (compEnvC scope (clFrom env.cells scope.names []) (s.heap.objs.size + 1) env) (H.fzAll.upd s.heap.objs.size ao0) I := by
  have st : ExtK C.gb s.heap := R.st k
  have x0 : Ext s.heap h₁ := (Ext.push _ _).trans hx
  have hI : I < s.heap.objs.size := Heap.lt_size gI
  have hD : h₁.get? s.heap.objs.size = some o0 := hx _ _ (Heap.get?_push_size _ hnf0)
  have hfree : ∀ p ∈ scope.names, p.2 = .free → ∃ ca, env.cells.lookup p.1 = some ca := fun p hp e => by
    rcases good.kinds p hp with h | ⟨_, h⟩
    · rw [h] at e; cases e
    · obtain ⟨ca, _, h1, _⟩ := R.fr.cells p.1 h; exact ⟨ca, h1⟩
  have hcl : ∀ p ∈ clFrom env.cells scope.names [], env.cells.lookup p.1 = some p.2 := cl_mem _ _ hfree fun p hp => nomatch hp
  have hcn : ((clFrom env.cells scope.names []).map (·.1)).Nodup := by
    rw [cl_names, List.map_nil, List.append_nil]
    have h1 : ((scope.names.filter (·.2 == .free)).map (·.1)).Nodup := good.names.sublist (List.filter_sublist.map _)
    exact List.pairwise_reverse.mpr (h1.imp fun e => Ne.symm e)
  have hIo : ∀ p ∈ env.cells, p.2 ≠ I := F.cell
  refine ⟨⟨⟨fun b o e => ?_, k.glob, k.nolim⟩, rfl, rfl, rfl, rfl, rfl, rfl, rfl⟩, ⟨fun b o e => ?_, ⟨?_, hkind, ?_, ?_, Nat.lt_succ_of_lt (Nat.lt_trans R.fr.low R.ltL), ⟨_, hns, fun x v h1 h2 => ?_⟩, fun x hx' => ?_, ?_, ?_, fun hro => ?_, fun p hp => ?_, fun h => by cases h⟩, ?_, fun b o e => ?_, R.gens, R.os⟩, ?_⟩
  · obtain ⟨o', h1, h2⟩ := st b o e
    refine ⟨o', ?_, h2⟩
    show (if b = I then none else s.heap.get? b) = _
    rw [if_neg fun q => ?_]
    · exact h1
    · obtain ⟨o2, h3, _⟩ := k.base b o e; rw [q, F.old] at h3; cases h3
  · have e' : (if b = I then none else s.heap.get? b) = some o := e
    split at e'
    · cases e'
    · exact .of (x0 b o e')
  · exact relab_eq R.fr.sc
  · exact R.fr.gl
  · exact R.fr.bl
  · obtain ⟨k', h3, h4⟩ := relab_lookup h1
    unfold capt at h2
    rcases h4 with e | ⟨e, _⟩
    · rw [← e] at h3; rw [h3] at h2; simp at h2
    · cases e
  · have hf : scope.names.lookup x = some .free := by
      rcases hx' with e | e
      · obtain ⟨k', h3, h4⟩ := relab_lookup e
        rcases h4 with h | ⟨_, h⟩
        · rw [← h] at h3
          rcases good.kinds _ (mem_of_lookup' h3) with q | ⟨q, _⟩ <;> cases q
        · rw [← h]; exact h3
      · obtain ⟨k', h3, h4⟩ := relab_lookup e
        rcases h4 with h | ⟨h, _⟩
        · rw [h]; exact h3
        · cases h
    have hk := good.kinds _ (mem_of_lookup' hf)
    obtain ⟨ca, co, h1, ⟨oc, h2, h2'⟩, h3⟩ := R.fr.cells x (hk.resolve_left (by intro q; cases q)).2
    have hm : x ∈ (clFrom env.cells scope.names []).map (·.1) := by
      rw [cl_names]
      simp only [List.map_nil, List.append_nil, List.mem_reverse, List.mem_map, List.mem_filter]
      exact ⟨(x, .free), ⟨mem_of_lookup' hf, rfl⟩, rfl⟩
    obtain ⟨ca', hca'⟩ := Option.isSome_iff_exists.mp (lookup_some_of_mem hm)
    have := hcl _ (mem_of_lookup' hca')
    rw [h1] at this
    cases this
    refine ⟨_, co, hca', ⟨oc, x0 _ _ h2, h2'⟩, fun v hv => ?_⟩
    unfold capt at hv
    rw [if_pos hf] at hv
    obtain ⟨c, h4, h5⟩ := h3 v hv
    exact ⟨c, h4, h5.t x0.t⟩
  · have ap := R.fr.apart
    show (clFrom env.cells scope.names []).Pairwise _
    have hp : (clFrom env.cells scope.names []).Pairwise fun x y => x.1 ≠ y.1 := List.pairwise_map.mp hcn
    refine hp.imp_of_mem fun {a b} ha hb hne e => hne ?_
    have h1 := mem_of_lookup' (hcl a ha)
    have h2 := mem_of_lookup' (hcl b hb)
    rw [← e] at h2
    exact name_of_addr ap h1 h2
  · show (if s.heap.objs.size + 1 = I then none else s.heap.get? (s.heap.objs.size + 1)) = none
    split
    · rfl
    · exact Heap.get?_none_of_le (Nat.le_succ _)
  · exact absurd hro (by show true ≠ false; decide)
  · obtain ⟨v, oc, h1, h2⟩ := R.fr.cin _ (mem_of_lookup' (hcl p hp))
    exact ⟨v, oc, x0 _ _ h1, h2⟩
  · show (H.fzAll.upd s.heap.objs.size ao0) (s.heap.objs.size + 1) = none
    rw [AHeap.upd_ne _ _ (by exact Nat.succ_ne_self _)]
    unfold AHeap.fzAll
    rw [R.unheld (Nat.le_succ _)]; rfl
  · unfold AHeap.upd at e
    split at e
    · rename_i hb
      subst hb
      cases e
      refine ⟨h0 _ _ hD, ?_⟩
      unfold Place
      rw [hz0]
      show (if s.heap.objs.size = I then none else s.heap.get? s.heap.objs.size) = none
      split
      · rfl
      · exact Heap.get?_none_of_le (Nat.le_refl _)
    · unfold AHeap.fzAll at e
      cases q : H b with
      | none => rw [q] at e; cases e
      | some o' =>
        rw [q] at e
        obtain ⟨h1, h2, ob', h3, h4⟩ := (R.hp b o' q).1.freeze e
        refine ⟨h1.t x0.t fun ob => x0 b ob, ?_⟩
        unfold Place
        rw [h2]
        refine ⟨ob', ?_, h4⟩
        show (if b = I then none else s.heap.get? b) = _
        rw [if_neg fun e2 => ?_]
        · exact h3
        · rw [e2, F.un] at q; cases q
  · refine ⟨?_, ?_, ?_, fun p hp => hIo _ (mem_of_lookup' (hcl p hp))⟩
    · show (if I = I then none else _) = none
      rw [if_pos rfl]
    · rw [AHeap.upd_ne _ _ (Nat.ne_of_lt hI)]
      unfold AHeap.fzAll
      rw [F.un]; rfl
    · exact Nat.ne_of_lt (Nat.lt_succ_of_lt hI)

theorem insP_len (S : List (Int × Int)) (k : Int × Int) : (insP S k).length ≤ S.length + 1 := by unfold insP; split <;> simp
theorem foldP_len : ∀ (l S : List (Int × Int)), (l.foldl insP S).length ≤ S.length + l.length
  | [], S => by simp
  | k :: l, S => by
    have h1 := insP_len S k
    have h2 := foldP_len l (insP S k)
    simp only [List.foldl_cons, List.length_cons]; omega
theorem sc_inner {elt t0 i0 t1 i1 : Expr} {scope : Scope} {pos : Pos} {C₃ : Cx} {cenv : Env} {J D : Addr} {xs : List AV} {Kt : Nat → Obj → Prop} {src : AHeap → Prop} {H0 : AHeap} {P : Loc → Prop} {g : AV → Int × Int} {S : List (Int × Int)} {R : Result → Shared → Prop}
    (ok : AOk C₃ A cenv) (hn : NextOf C₃ J xs Kt src) (hsrc : ∀ S, src (H0.upd D (.pset S)))
    (he : ∀ ob ρ' S a, a ∈ xs → P ρ' → TA (C₃.hold J ob) t1 a ρ' (H0.upd D (.pset S)) fun ρ'' => P ρ'' ∧ TE (C₃.hold J ob) elt ρ'' (H0.upd D (.pset S)) fun v H3 => v = .pair (g a) ∧ H3 = H0.upd D (.pset S))
    (h5 : ∀ a ∈ xs, Low5 (g a)) (hJD : J ≠ D) (hlen : S.length + xs.length < 12)
    (hend : ∀ ρ' s', P ρ' → SRep C₃ cenv ρ' (H0.upd D (.pset ((xs.map g).foldl insP S))) s' → Free C₃ cenv H0 J → R (.ok .next) s')
    {i : Nat} {ρ' : Loc} {s : Shared} {ob : Obj} (hi : i ≤ xs.length) (hR : SRep C₃ cenv ρ' (H0.upd D (.pset (((xs.take i).map g).foldl insP S))) s) (hP : P ρ') (hF : Free C₃ cenv H0 J) (hg : s.heap.get? J = some ob) (hK : Kt i ob) :
    codeAny (model C₃.prog C₃.w) A (.compLoop (sc2 elt t0 i0 t1 i1 scope pos) 1 (.ref J) (.ref D) cenv) R s := by
  refine codeAny_loop rfl (fun n s => ∃ i ρ' ob, i ≤ xs.length ∧ SRep C₃ cenv ρ' (H0.upd D (.pset (((xs.take i).map g).foldl insP S))) s ∧ P ρ' ∧ Free C₃ cenv H0 J ∧ s.heap.get? J = some ob ∧ Kt i ob ∧ n = xs.length + 1 - i) (fun n s hs => ?_) (xs.length + 1 - i) ⟨i, ρ', ob, hi, hR, hP, hF, hg, hK, rfl⟩
  clear hR hP hF hg hK hi
  obtain ⟨i, ρ', ob, hi, hR, hP, hF, hg, hK, rfl⟩ := hs
  have hF' : ∀ S, Free C₃ cenv (H0.upd D (.pset S)) J := fun S => hF.upd hJD
  show wpAny _ A ((compTurn (sc2 elt t0 i0 t1 i1 scope pos) 1 (.ref J) (.ref D) cenv).onRaise (fun x => do noteFrame x cenv; theTreesLotGoes x)) _ _ s
  refine wpAny_noted ?_
  rw [compTurn_sc1]
  refine wpAny_bind (wpAny_standAt (wpAny_bind (wpAny_mono (hn.2.2 A cenv ρ' _ s i ob (ok.within.le (by decide)) hR (hsrc _) (hF' _) hg hK hi) (fun r s₁ ⟨t₁, R₁, hr⟩ => ?_) fun _ _ x => x.elim)))
  cases r with
  | none =>
    have hr' : i = xs.length := hr
    subst hr'
    rw [List.take_length] at R₁
    exact wpAny_pure (hend ρ' s₁ hP R₁ hF)
  | some cv =>
    obtain ⟨v, ob', hxi, hvc, hg', hK'⟩ := hr
    have hlt : i < xs.length := (List.getElem?_eq_some_iff.mp hxi).1
    obtain ⟨T, hT, hne⟩ := hn.2.1 _ _ hK'
    refine wpAny_bind (wpAny_mono (letGo_no (C := C₃) (t := t1) (v := cv) (Q := fun _ s => s = s₁) hg' hT hne rfl) (fun _ s₁' e => ?_) fun _ _ e => e.elim)
    subst e
    have ok' : AOk (C₃.hold J ob') A cenv := ok.hold J ob'
    refine wpAny_bind (wpAny_mono (he ob' ρ' _ v (List.mem_of_getElem? hxi) hP A cenv s₁' cv ok' (R₁.free hg' (hF' _)) hvc) (fun _ s₂ ⟨ρ₂, R₂, t₂, hP₂, hel⟩ => ?_) fun _ _ e => e.elim)
    refine wpAny_bind (wpAny_bind (wpAny_mono (hel A cenv s₂ ok' R₂) (fun x s₃ ⟨t₃, av, H3, hav, R₃, e1, e2⟩ => wpAny_bind (wpAny_standAt ?_)) fun _ _ e => e.elim))
    subst e1; subst e2
    have hl : (((xs.take i).map g).foldl insP S).length < 12 := by
      have h1 := foldP_len ((xs.take i).map g) S
      have h2 : ((xs.take i).map g).length ≤ xs.length := by rw [List.length_map, List.length_take]; omega
      omega
    refine wpAny_bind (wpAny_mono (TC_sadd (C := C₃.hold J ob') setKP (Q := fun _ H' => H' = (H0.upd D (.pset (((xs.take i).map g).foldl insP S))).upd D (.pset (insP (((xs.take i).map g).foldl insP S) (g v)))) (AHeap.upd_self _ _ _) hl (h5 v (List.mem_of_getElem? hxi)) rfl A cenv ρ₂ s₃ [.ref D, x] ok' R₃ ⟨rfl, hav, trivial⟩) (fun r s₅ ⟨t₅, av', H5, hav', R₅, e5⟩ => ?_) fun _ _ e => e.elim)
    subst e5
    rw [upd_upd] at R₅
    obtain ⟨R₆, g₆, F₆⟩ := R₅.back (hn.1 _ _ hK') hF.old
    have etake : ((xs.take (i + 1)).map g) = (xs.take i).map g ++ [g v] := by rw [List.take_add_one, hxi, List.map_append]; rfl
    exact wpAny_pure (wpAny_pure ⟨rfl, xs.length + 1 - (i + 1), by omega, i + 1, ρ₂, ob', hlt, by rw [etake, List.foldl_append]; exact R₆, hP₂, hF, g₆, hK', rfl⟩)
theorem sc_outer {elt t0 i0 t1 i1 : Expr} {scope : Scope} {pos : Pos} {C₁ : Cx} {cenv : Env} {I D : Addr} {xs : List AV} {Kt : Nat → Obj → Prop} {Src : Heap → Prop} {H0 : AHeap} {P0 : Loc → Prop} {Inv : Nat → List (Int × Int) → Prop} {R : Result → Shared → Prop}
    (ok : AOk C₁ A cenv) (hn : NextR C₁.prog C₁.w I xs Kt Src) (hsrc : ∀ env ρ H s, SRep C₁ env ρ H s → Src s.heap) (hs1 : ∀ (env : Env) x, foldedSetIterable i1 env x = pure x) (hID : I ≠ D)
    (he : ∀ ob ρ' S i a, xs[i]? = some a → P0 ρ' → Inv i S → TA (C₁.hold I ob) t0 a ρ' (H0.upd D (.pset S)) fun ρ'' => TE (C₁.hold I ob) i1 ρ'' (H0.upd D (.pset S)) fun v H3 => H3 = H0.upd D (.pset S) ∧
      ∃ Vals src, IterSome (C₁.hold I ob) v H3 Vals src ∧ (∀ S, src (H0.upd D (.pset S))) ∧ ∀ ys, Vals ys → ∃ (P1 : Loc → Prop) (g : AV → Int × Int), P1 ρ'' ∧ (∀ ρ, P1 ρ → P0 ρ) ∧
        (∀ J ob2 ρ' S a, a ∈ ys → P1 ρ' → TA ((C₁.hold I ob).hold J ob2) t1 a ρ' (H0.upd D (.pset S)) fun ρ'' => P1 ρ'' ∧ TE ((C₁.hold I ob).hold J ob2) elt ρ'' (H0.upd D (.pset S)) fun v H3 => v = .pair (g a) ∧ H3 = H0.upd D (.pset S)) ∧
        (∀ a ∈ ys, Low5 (g a)) ∧ S.length + ys.length < 12 ∧ Inv (i + 1) ((ys.map g).foldl insP S))
    (hend : ∀ ρ' S s', Inv xs.length S → SRep C₁ cenv ρ' (H0.upd D (.pset S)) s' → R (.ok .next) s')
    {i : Nat} {ρ' : Loc} {S : List (Int × Int)} {s : Shared} {ob : Obj} (hi : i ≤ xs.length) (hI : Inv i S) (hR : SRep C₁ cenv ρ' (H0.upd D (.pset S)) s) (hP : P0 ρ') (hF : Free C₁ cenv H0 I) (hg : s.heap.get? I = some ob) (hK : Kt i ob) :
    codeAny (model C₁.prog C₁.w) A (.compLoop (sc2 elt t0 i0 t1 i1 scope pos) 0 (.ref I) (.ref D) cenv) R s := by
  refine codeAny_loop rfl (fun n s => ∃ i ρ' S ob, i ≤ xs.length ∧ Inv i S ∧ SRep C₁ cenv ρ' (H0.upd D (.pset S)) s ∧ P0 ρ' ∧ Free C₁ cenv H0 I ∧ s.heap.get? I = some ob ∧ Kt i ob ∧ n = xs.length + 1 - i) (fun n s hs => ?_) (xs.length + 1 - i) ⟨i, ρ', S, ob, hi, hI, hR, hP, hF, hg, hK, rfl⟩
  clear hR hP hF hg hK hi hI
  obtain ⟨i, ρ', S, ob, hi, hI, hR, hP, hF, hg, hK, rfl⟩ := hs
  have hF' : ∀ S, Free C₁ cenv (H0.upd D (.pset S)) I := fun S => hF.upd hID
  show wpAny _ A ((compTurn (sc2 elt t0 i0 t1 i1 scope pos) 0 (.ref I) (.ref D) cenv).onRaise (fun x => do noteFrame x cenv; theTreesLotGoes x)) _ _ s
  refine wpAny_noted ?_
  rw [compTurn_sc0]
  refine wpAny_bind (wpAny_standAt (wpAny_bind (wpAny_mono (hn.next A s i ob (ok.within.le (by decide)) (hsrc _ _ _ _ hR) hg hK hi) (fun r s₁ ⟨⟨h', tk, e1, hx⟩, hr⟩ => ?_) fun _ _ x => x.elim)))
  have R₁ : SRep C₁ cenv ρ' (H0.upd D (.pset S)) s₁ := hR.otherS hg (hF' _) (hn.odd _ _ hK).t (by rw [e1]; exact hx) (by rw [e1]; exact hR.gens) (by rw [e1])
  cases r with
  | none =>
    have hr' : i = xs.length := hr
    subst hr'
    exact wpAny_pure (hend ρ' S s₁ hI R₁)
  | some cv =>
    obtain ⟨v, ob', hxi, hvc, hg', hK'⟩ := hr
    have hlt : i < xs.length := (List.getElem?_eq_some_iff.mp hxi).1
    obtain ⟨T, hT, hne⟩ := hn.ty _ _ hK'
    refine wpAny_bind (wpAny_mono (letGo_no (C := C₁) (t := t0) (v := cv) (Q := fun _ s => s = s₁) hg' hT hne rfl) (fun _ s₁' e => ?_) fun _ _ e => e.elim)
    subst e
    have ok' : AOk (C₁.hold I ob') A cenv := ok.hold I ob'
    refine wpAny_bind (wpAny_mono (he ob' ρ' S i v hxi hP hI A cenv s₁' cv ok' (R₁.free hg' (hF' _)) hvc) (fun _ s₂ ⟨ρ₂, R₂, t₂, hel⟩ => ?_) fun _ _ e => e.elim)
    refine wpAny_bind (wpAny_mono (hel A cenv s₂ ok' R₂) (fun x s₃ ⟨t₃, av, H3, hav, R₃, e2, Vals, src, hit, hsrc2, hb⟩ => wpAny_bind (wpAny_standAt ?_)) fun _ _ e => e.elim)
    subst e2
    rw [hs1 cenv x]
    refine wpAny_bind (wpAny_pure ?_)
    refine wpAny_bind (wpAny_holding (wpAny_mono (hit A cenv ρ₂ s₃ x (ok'.within.le (by decide)) R₃ hav) (fun it s₄ ⟨t₄, R₄, J, obJ, KJ, ys, hvals, e, FJ, gJ, hKJ, hnJ, hraw⟩ => ?_) fun _ _ e => e.elim))
    subst e
    obtain ⟨P1, g, hP1, hPP, hel2, h5, hlen, hI'⟩ := hb ys hvals
    have hJD : J ≠ D := FJ.ne (AHeap.upd_self _ _ _)
    have hFJ : Free (C₁.hold I ob') cenv H0 J := ⟨FJ.old, by have := FJ.un; rwa [AHeap.upd_ne _ _ hJD] at this, FJ.loc, FJ.cell⟩
    have loop : codeAny (model C₁.prog C₁.w) A (.compLoop (sc2 elt t0 i0 t1 i1 scope pos) 1 (.ref J) (.ref D) cenv) (fun r s' => match r with
        | .ok f => wpAny (model C₁.prog C₁.w) A (again (.compLoop (sc2 elt t0 i0 t1 i1 scope pos) 0 (.ref I) (.ref D) cenv))
          (fun fin s' => match fin with
            | .done f => R (.ok f) s'
            | .again c' => c' = .compLoop (sc2 elt t0 i0 t1 i1 scope pos) 0 (.ref I) (.ref D) cenv ∧ ∃ m, m < xs.length + 1 - i ∧ ∃ i ρ' S ob, i ≤ xs.length ∧ Inv i S ∧ SRep C₁ cenv ρ' (H0.upd D (.pset S)) s' ∧ P0 ρ' ∧ Free C₁ cenv H0 I ∧ s'.heap.get? I = some ob ∧ Kt i ob ∧ m = xs.length + 1 - i)
          (notedBy (model C₁.prog C₁.w) A cenv fun e s' => R (.error e) s') s'
        | .error e => cameBackBy (model C₁.prog C₁.w) A cenv (notedBy (model C₁.prog C₁.w) A cenv fun e s' => R (.error e) s') e s') s₄ := by
      refine sc_inner (C₃ := C₁.hold I ob') (ob := obJ) (i := 0) (S := S) (P := P1) (g := g) ok' hnJ hsrc2 (fun ob2 ρ' S a ha hp => hel2 J ob2 ρ' S a ha hp) h5 hJD hlen (fun ρ₅ s₅ hP₅ R₅ _ => ?_) (Nat.zero_le _) (by simpa using R₄) hP1 hFJ gJ hKJ
      obtain ⟨R₆, g₆, F₆⟩ := R₅.back (hn.odd _ _ hK') hF.old
      exact wpAny_pure ⟨rfl, xs.length + 1 - (i + 1), by omega, i + 1, ρ₅, _, ob', hlt, hI', R₆, hPP _ hP₅, hF, g₆, hK', rfl⟩
    obtain ⟨_, _, SrcJ, hnJ', _⟩ := hraw
    have loop' := codeAny_compStart_sc (by decide) loop (wpAny_mono (hnJ'.self A s₄ 0 obJ _ gJ hKJ loop) (fun _ _ h => h) fun _ _ e => e.elim)
    refine wpAny_bind (wpAny_runOwn ?_)
    rw [Around.mark_none]
    exact loop'
/-- what is captured stands -/
def Capt (scope : Scope) (ρ ρ' : Loc) : Prop := ∀ x v, scope.names.lookup x = some .free → ρ x = some v → ρ' x = some v
theorem new_set {Q : Value → Shared → Prop} (h : Q (.ref s.heap.objs.size) { s with heap := s.heap.push (setObj #[] 0 (.fresh 0 0 (!byText C.w))) }) : W C A (newSet (.type "set")) Q s := by
  unfold newSet setsByText
  refine wpAny_bind (wpAny_bind (wpAny_askSetting (wpAny_pure ?_)))
  dsimp only
  exact wpAny_newObj_type h
theorem TE_setcomp2 {elt t0 i0 t1 i1 : Expr} {scope : Scope} {pos : Pos} {Q : AV → AHeap → Prop} (k : C.Ok) (hgood : compGood C.sc scope = true) (hkind : scope.kind = .function)
    (hs0 : ∀ (env : Env) x, foldedSetIterable i0 env x = pure x) (hs1 : ∀ (env : Env) x, foldedSetIterable i1 env x = pure x)
    (h : TE C i0 ρ H fun v H₁ => ∃ Vals src, IterSome C v H₁ Vals src ∧ ∀ xs, Vals xs → ∃ Inv : Nat → List (Int × Int) → Prop, Inv 0 [] ∧
      (∀ (C' : Cx) (D : Addr) (H0 : AHeap), Inner C C' scope → (∀ S b o, H₁.fzAll b = some o → (H0.upd D (.pset S)) b = some o) → ∀ ρ' S i a, xs[i]? = some a → Capt scope ρ ρ' → Inv i S →
        TA C' t0 a ρ' (H0.upd D (.pset S)) fun ρ'' => TE C' i1 ρ'' (H0.upd D (.pset S)) fun v H3 => H3 = H0.upd D (.pset S) ∧
        ∃ Vals src, IterSome C' v H3 Vals src ∧ (∀ S, src (H0.upd D (.pset S))) ∧ ∀ ys, Vals ys → ∃ (P1 : Loc → Prop) (g : AV → Int × Int), P1 ρ'' ∧ (∀ ρ', P1 ρ' → Capt scope ρ ρ') ∧
          (∀ J ob2 ρ' S a, a ∈ ys → P1 ρ' → TA (C'.hold J ob2) t1 a ρ' (H0.upd D (.pset S)) fun ρ'' => P1 ρ'' ∧ TE (C'.hold J ob2) elt ρ'' (H0.upd D (.pset S)) fun v H3 => v = .pair (g a) ∧ H3 = H0.upd D (.pset S)) ∧
          (∀ a ∈ ys, Low5 (g a)) ∧ S.length + ys.length < 12 ∧ Inv (i + 1) ((ys.map g).foldl insP S)) ∧
      ∀ r S, H₁ r = none → Inv xs.length S → Q (.ref r) (H₁.upd r (.pset S))) :
    TE C (sc2 elt t0 i0 t1 i1 scope pos) ρ H Q := fun A env s ok R => by
  have e0 : eval (sc2 elt t0 i0 t1 i1 scope pos) env = comprehension (sc2 elt t0 i0 t1 i1 scope pos) scope env (firstIterPos [⟨t0, i0, [], 0⟩, ⟨t1, i1, [], 0⟩] pos) (newSet (.type "set")) (firstAsync [⟨t0, i0, [], 0⟩, ⟨t1, i1, [], 0⟩]) (firstIter [⟨t0, i0, [], 0⟩, ⟨t1, i1, [], 0⟩] env) := rfl
  rw [e0]
  have good := compGood_ok hgood
  have hfree : ∀ p ∈ scope.names, p.2 = .free → ∃ ca, env.cells.lookup p.1 = some ca := fun p hp e => by
    rcases good.kinds p hp with h | ⟨_, h⟩
    · rw [h] at e; cases e
    · obtain ⟨ca, _, h1, _⟩ := R.fr.cells p.1 h; exact ⟨ca, h1⟩
  have hnc : ∀ x ∈ scope.names, x.2 ≠ .cell := fun x hx e => by
    rcases good.kinds x hx with h | ⟨h, _⟩ <;> rw [h] at e <;> cases e
  refine wpAny_comprehension_free (use := none) rfl (hs0 env) (closureFor_ok hfree) hkind (fun x hx e => e ▸ lookup_nodup good.names hx) ?_
  refine W.mono (h A env s ok R) fun x s₁ ⟨t₁, v, H₁, h1, R₁, Vals, src, hit, hb⟩ => W.mono (hit A env ρ s₁ x (ok.within.le (by decide)) R₁ h1) fun it s₂ ⟨t₂, R₂, I, ob, Kt, xs, hvals, e, F, g, hK, hnof, hraw⟩ => ?_
  subst e
  obtain ⟨⟨h', tk, es2, hx2⟩, hIge, Src, hn, hstab⟩ := hraw
  obtain ⟨Inv, hI0, hE, hfin⟩ := hb xs hvals
  refine new_set (C := C) (wpAny_newFunctionEnv hnc (by intro y hy; simp at hy) (fun h₁ hns hsb => ?_) hkind)
  have hpsz : (s₂.heap.push (setObj #[] 0 (.fresh 0 0 (!byText C.w)))).objs.size = s₂.heap.objs.size + 1 := Heap.size_push ..
  have hns' : h₁.Ns (s₂.heap.push (setObj #[] 0 (.fresh 0 0 (!byText C.w)))).objs.size fun _ => none := hns
  have hx1 : Ext (s₂.heap.push (setObj #[] 0 (.fresh 0 0 (!byText C.w)))) h₁ := fun b o e => (hsb.2 b (Nat.ne_of_lt (Heap.lt_size e))).trans (Heap.get?_push_of_some _ e)
  have base := inner_frameG (C := C) (o0 := setObj #[] 0 (.fresh 0 0 (!byText C.w))) (ao0 := .pset []) (fun h a g => setKP.emp C h a g) rfl rfl (h₁ := h₁) (tk := s₂.toks + 0) k R₂ F g good hkind (by rw [hpsz] at hns'; exact hns') hx1
  rw [← hpsz] at base
  obtain ⟨inn, R₃, F₃⟩ := base
  have hI : I < s₂.heap.objs.size := Heap.lt_size g
  have x23 : Ext s₂.heap h₁ := (Ext.push _ _).trans hx1
  have hDn : H₁.fzAll s₂.heap.objs.size = none := by unfold AHeap.fzAll; rw [R₂.unheld (Nat.le_refl _)]; rfl
  have hup : ∀ S b o, H₁.fzAll b = some o → (H₁.fzAll.upd s₂.heap.objs.size (.pset S)) b = some o := fun S b o e => by
    rw [AHeap.upd_ne _ _ fun q => by rw [q, hDn] at e; cases e]; exact e
  have loop : codeAny (model C.prog C.w) A (.compLoop (sc2 elt t0 i0 t1 i1 scope pos) 0 (.ref I) (.ref s₂.heap.objs.size) (compEnvC scope (clFrom env.cells scope.names []) (s₂.heap.push (setObj #[] 0 (.fresh 0 0 (!byText C.w)))).objs.size env))
      (compPost (model C.prog C.w) A (fun _ _ => False) none (EndV C env ρ Q s.heap) (.ref s₂.heap.objs.size) (s₂.heap.push (setObj #[] 0 (.fresh 0 0 (!byText C.w)))).objs.size) { s₂ with heap := h₁, toks := s₂.toks + 0 } := by
    refine sc_outer (C₁ := C.inner scope I s₂.heap) (H0 := H₁.fzAll) (P0 := Capt scope ρ) (Inv := Inv) (xs := xs) (i := 0) (S := []) (ob := ob) (ok.inner inn.room inn.stk) hn (fun env' ρ' H' s' R' => hstab _ fun b o hb e => R'.keep b o (by show (if b = I then none else s₂.heap.get? b) = _; rw [if_neg hb]; exact e)) hs1 (Nat.ne_of_lt hI)
      (fun ob' ρ' S i a ha hc hi => ?_) (fun ρ' S s' hInv R' => ?_) (Nat.zero_le _) hI0 R₃ (fun x v h1 h2 => by unfold capt; rw [if_pos h1]; exact h2) ⟨F₃.old, ?_, F₃.loc, F₃.cell⟩ (x23 _ _ g) hK
    · exact hE ((C.inner scope I s₂.heap).hold I ob') s₂.heap.objs.size H₁.fzAll (inn.hold I ob') hup ρ' S i a ha hc hi
    · have hx : ExtBK I s₂.heap s'.heap := fun b o hb e => R'.keep b o (by show (if b = I then none else s₂.heap.get? b) = _; rw [if_neg hb]; exact e)
      have hodd := hn.odd _ _ hK
      have R₄ : SRep C env ρ H₁ s' := R₂.otherK g F hodd.t hx R'.gens (R'.os.trans R₂.os.symm)
      have hDsh := (R'.hp _ _ (AHeap.upd_self _ _ _)).1
      have R₅ : SRep C env ρ (H₁.upd s₂.heap.objs.size (.pset S)) s' := R₄.add ⟨hDsh, R₂.fresh (Nat.le_refl _)⟩ (Nat.ne_of_gt R₂.ltL)
      have fr := R₂.freshAt (a := (s₂.heap.push (setObj #[] 0 (.fresh 0 0 (!byText C.w)))).objs.size) (by rw [hpsz]; exact Nat.le_succ _)
      have F' : Free C env (H₁.upd s₂.heap.objs.size (.pset S)) (s₂.heap.push (setObj #[] 0 (.fresh 0 0 (!byText C.w)))).objs.size := fr.upd (by rw [hpsz]; exact Nat.succ_ne_self _)
      obtain ⟨m, hm, _⟩ := R'.fr.ns
      refine ⟨m, hm, fun h' sb => ?_⟩
      obtain ⟨oC, es, ep, hoC, hdC, _⟩ := id hm
      have nt : ∀ vs n, oC ≠ tupObj vs n := fun vs n e => by rw [e] at hdC; cases hdC
      exact ⟨((t₁.trans t₂).trans (TExt.otherK g hodd.t hx)).trans (TExt.other hoC nt sb.extBut), .ref s₂.heap.objs.size, _, rfl, R₅.other (tk := s'.toks) hoC F'.old F'.un F'.loc F'.cell nt sb.extBut, hfin _ S (R₂.unheld (Nat.le_refl _)) hInv⟩
    · unfold AHeap.fzAll; rw [F.un]; rfl
  refine codeAny_compStart_sc (by decide) loop ?_
  exact wpAny_mono (hn.self A _ 0 ob _ (x23 _ _ g) hK loop) (fun _ _ h => h) fun _ _ e => e.elim
end
end Mine
end
section
open PySem PySem.W PyProof.Rows PySem.SeqAt
set_option maxRecDepth 10000
set_option autoImplicit false
set_option linter.unusedVariables false
namespace Mine
theorem mem_insP {S : List (Int × Int)} {k y : Int × Int} : y ∈ insP S k ↔ y ∈ S ∨ y = k := by
  unfold insP
  split
  · rename_i h; constructor
    · exact .inl
    · rintro (h' | rfl)
      · exact h'
      · exact h
  · simp
theorem mem_foldP : ∀ {l S : List (Int × Int)} {y : Int × Int}, y ∈ l.foldl insP S ↔ y ∈ S ∨ y ∈ l
  | [], S, y => by simp
  | k :: l, S, y => by
    rw [List.foldl_cons, mem_foldP, mem_insP, List.mem_cons]
    constructor
    · rintro ((h | h) | h)
      · exact .inl h
      · exact .inr (.inl h)
      · exact .inr (.inr h)
    · rintro (h | h | h)
      · exact .inl (.inl h)
      · exact .inl (.inr h)
      · exact .inr h
theorem lookup_pair : ∀ {l : List (Int × Addr)}, (l.map (·.1)).Nodup → ∀ {p : Int × Addr}, p ∈ l → l.lookup p.1 = some p.2
  | q :: l, h, p, hp => by
    obtain ⟨a, b⟩ := q
    rw [List.lookup_cons]
    by_cases e : p.1 = a
    · rw [show (p.1 == a) = true by simpa using e]
      rcases List.mem_cons.mp hp with rfl | hp
      · rfl
      · exact absurd (List.mem_map.mpr ⟨p, hp, e⟩) (List.nodup_cons.mp h).1
    · rw [show (p.1 == a) = false by simpa using e]
      rcases List.mem_cons.mp hp with rfl | hp
      · exact absurd rfl e
      · exact lookup_pair (List.nodup_cons.mp h).2 hp
def asInt : AV → Int
  | .b (.int i) => i
  | _ => 0
theorem edges_walk {C : Cx} {ρ : Loc} {H : AHeap} {E : Addr} {es : List (Int × Addr)} {f : Int → List Int} (k : C.Ok) (hsc : C.sc = fnS 7) (hro : C.ro = false) (he : ρ "edges" = some (.ref E)) (D : DDFz H E es f)
    (h5 : ∀ p ∈ es, (0 ≤ p.1 ∧ p.1 < 5) ∧ ∀ x ∈ f p.1, 0 ≤ x ∧ x < 5) (hcount : (es.map fun p => (f p.1).length).sum < 12) :
    TSs C (fnB 7) ρ H fun fl ρ' H' => ∃ r S, fl = .ret (.ref r) ∧ H' r = some (.pset S) ∧ ∀ p, p ∈ S ↔ p.1 ∈ f p.2 := by
  unfold fnB
  refine TSs_cons (TS_ret (TE_setcomp2 k (by rw [hsc]; rfl) rfl (fun env x => rfl) (fun env x => rfl) (TE_name (ld_of hsc rfl) (v := .ref E) (by exact he) ⟨_, _, (iter_rdd D.at_).some, fun xs hx => ?_⟩)))
  subst hx
  refine ⟨fun i S => (∀ p, p ∈ S ↔ ∃ q ∈ es.take i, p.2 = q.1 ∧ p.1 ∈ f q.1) ∧ S.length ≤ ((es.take i).map fun p => (f p.1).length).sum, ⟨fun p => by simp, by simp⟩, fun C' Da H0 inn hup ρ' S i a ha hcap hInv => ?_, fun r S hr hInv => ?_⟩
  · obtain ⟨q, hq, rfl⟩ : ∃ q, es[i]? = some q ∧ a = .int q.1 := by
      rw [List.getElem?_map, List.getElem?_map] at ha
      cases hh : es[i]? with
      | none => rw [hh] at ha; cases ha
      | some q => rw [hh] at ha; exact ⟨q, rfl, (Option.some.inj ha).symm⟩
    have hqm : q ∈ es := List.mem_of_getElem? hq
    have hsc' : C'.sc = relab _ C.sc := inn.sc
    rw [hsc] at hsc'
    have stk : ∀ x, (relab _ (fnS 7)).names.lookup x = some .local → stOk C' x = true := fun x h => by unfold stOk; rw [hsc', h]
    refine TA_name (stk _ rfl) ?_
    have hE : ∀ S, (H0.upd Da (.pset S)) E = some (.rdd es) := fun S => hup S _ _ (by unfold AHeap.fzAll; rw [D.at_]; rfl)
    have hset : ∀ S, (H0.upd Da (.pset S)) q.2 = some (.rset (f q.1)) := fun S => hup S _ _ (by unfold AHeap.fzAll; rw [D.sets q hqm]; rfl)
    have cE : ρ' "edges" = some (.ref E) := hcap _ _ rfl (by exact he)
    refine TE_ddidx (fun o i => rfl) (TE_name (ld_of hsc' rfl) (v := .ref E) (by rw [Loc.upd_ne _ _ (by decide)]; exact cE) (TE_name (ld_of hsc' rfl) (v := .int q.1) (Loc.upd_self _ _ _) ⟨E, q.1, rfl, rfl, ⟨es, by unfold AHeap.ents; rw [hE]; rfl⟩, T2_ddget (b := q.2) (es := es) (by unfold AHeap.ents; rw [hE]; rfl) ?_ ?_⟩))
    · exact lookup_pair D.keysN hqm
    refine ⟨rfl, _, _, iter_rset (hset S), hset, fun ys hys => ?_⟩
    obtain ⟨m, rfl, pm⟩ := hys
    refine ⟨fun ρ'' => Capt _ ρ ρ'' ∧ ρ'' "left" = some (.int q.1), fun a => (asInt a, q.1), ⟨fun x v h1 h2 => ?_, Loc.upd_self _ _ _⟩, fun ρ'' h => h.1, fun J ob2 ρ'' S' a ha hP => ?_, fun a ha => ?_, ?_, ?_⟩
    · rw [Loc.upd_ne _ _ (by rintro rfl; exact absurd h1 (by decide))]; exact hcap x v h1 h2
    · obtain ⟨z, hz, rfl⟩ := List.mem_map.mp ha
      refine TA_name (C := C'.hold J ob2) (stk _ rfl) ⟨⟨fun x v h1 h2 => ?_, by rw [Loc.upd_ne _ _ (by decide)]; exact hP.2⟩, ?_⟩
      · rw [Loc.upd_ne _ _ (by rintro rfl; exact absurd h1 (by decide))]; exact hP.1 x v h1 h2
      · refine TE_tuple (TEs_cons (fun env => rfl) (TE_name (C := C'.hold J ob2) (ld_of (C := C'.hold J ob2) hsc' rfl) (v := .int z) (Loc.upd_self _ _ _) (TEs_cons (fun env => rfl) (TE_name (ld_of (C := C'.hold J ob2) hsc' rfl) (v := .int q.1) (by rw [Loc.upd_ne _ _ (by decide)]; exact hP.2) (TEs_nil ⟨[.int z, .int q.1], rfl, by show 2 ≤ sizeLine; decide, rfl, rfl⟩)))))
    · obtain ⟨z, hz, rfl⟩ := List.mem_map.mp ha
      have := h5 q hqm
      exact ⟨this.2 z (pm.mem_iff.mp hz), this.1⟩
    · have h1 : ((es.take (i + 1)).map fun p => (f p.1).length).sum = ((es.take i).map fun p => (f p.1).length).sum + (f q.1).length := by
        rw [List.take_add_one, hq, List.map_append, List.sum_append]; simp
      have h2 : ((es.take (i + 1)).map fun p => (f p.1).length).sum ≤ (es.map fun p => (f p.1).length).sum := by
        conv => rhs; rw [← List.take_append_drop (i + 1) es, List.map_append, List.sum_append]
        omega
      have := hInv.2
      have hl : (m.map AV.int).length = (f q.1).length := by rw [List.length_map, pm.length_eq]
      show S.length + (m.map AV.int).length < 12
      rw [hl]; omega
    · refine ⟨fun p => ?_, ?_⟩
      · rw [mem_foldP, hInv.1 p, List.take_add_one, hq]
        constructor
        · rintro (⟨q', h1, h2⟩ | h)
          · exact ⟨q', List.mem_append_left _ h1, h2⟩
          · obtain ⟨a, ha, rfl⟩ := List.mem_map.mp h
            obtain ⟨z, hz, rfl⟩ := List.mem_map.mp ha
            exact ⟨q, List.mem_append_right _ (by simp), rfl, pm.mem_iff.mp hz⟩
        · rintro ⟨q', h1, h2, h3⟩
          rcases List.mem_append.mp h1 with h1 | h1
          · exact .inl ⟨q', h1, h2, h3⟩
          · simp at h1
            subst h1
            exact .inr (List.mem_map.mpr ⟨.int p.1, List.mem_map.mpr ⟨p.1, pm.mem_iff.mpr h3, rfl⟩, by rw [← h2]; rfl⟩)
      · have h1 := foldP_len ((m.map AV.int).map fun a => (asInt a, q.1)) S
        rw [List.take_add_one, hq, List.map_append, List.sum_append]
        have := hInv.2
        have hl : ((m.map AV.int).map fun a => (asInt a, q.1)).length = (f q.1).length := by rw [List.length_map, List.length_map, pm.length_eq]
        simp only [Option.toList, List.map_cons, List.map_nil, List.sum_cons, List.sum_nil]
        omega
  · refine ⟨r, S, rfl, AHeap.upd_self _ _ _, fun p => ?_⟩
    rw [hInv.1 p, List.take_of_length_le (by simp)]
    constructor
    · rintro ⟨q, hq, h1, h2⟩; rw [h1]; exact h2
    · intro h
      by_cases hm : p.2 ∈ es.map (·.1)
      · obtain ⟨q, hq, e⟩ := List.mem_map.mp hm
        exact ⟨q, hq, e.symm, by rw [e]; exact h⟩
      · rw [D.off _ hm] at h; cases h
theorem ret_own {H H' : AHeap} {r : Addr} {o : AObj} {Q : AV → AHeap → Prop} (h : H' r = some o) (hz : o.fz = false) (hq : ∀ r, H r = none → Q (.ref r) (H.upd r o)) :
    ∃ v L, (AFlow.ret (.ref r) = .ret v ∨ (AFlow.ret (.ref r) = .next ∧ v = .none)) ∧ (∀ b ∈ L, ∃ o, H' b = some o ∧ o.fz = false) ∧ ((∀ b ∈ L, H b = none) → Q v (H.adopt H' L)) :=
  ⟨.ref r, [r], .inl rfl, fun b hb => by rw [List.mem_singleton] at hb; subst hb; exact ⟨_, h, hz⟩, fun hn => by rw [adopt_one h]; exact hq r (hn r (by simp))⟩
theorem DDOk.fzAll {H : AHeap} {E : Addr} {es : List (Int × Addr)} {f : Int → List Int} (d : DDOk H E es f) : DDFz H.fzAll E es f where
  at_ := by unfold AHeap.fzAll; rw [d.at_]; rfl
  keysN := d.keysN
  sets := fun p hp => by unfold AHeap.fzAll; rw [d.sets p hp]; rfl
  off := d.off
/-- _gen_edges(edges) -/
theorem TC_edges {C : Cx} {H : AHeap} {fv : Value} {E : Addr} {es : List (Int × Addr)} {f : Int → List Int} {Q : AV → AHeap → Prop} (F : FnAt C.gb fv 7 ["edges"]) (k : C.Ok) (hr : 0 < C.room) (D : DDOk H E es f)
    (h5 : ∀ p ∈ es, (0 ≤ p.1 ∧ p.1 < 5) ∧ ∀ x ∈ f p.1, 0 ≤ x ∧ x < 5) (hcount : (es.map fun p => (f p.1).length).sum < 12)
    (hq : ∀ r S, H r = none → (∀ p, p ∈ S ↔ p.1 ∈ f p.2) → Q (.ref r) (H.upd r (.pset S))) : TC C fv [.ref E] H Q := by
  refine TC_fn F k hr rfl rfl rfl rfl rfl fun C' k' hsc hro hG hgb hrm _ _ => ?_
  refine (edges_walk k' hsc hro rfl D.fzAll h5 hcount).mono fun fl ρ' H' ⟨r, S, e, h, hm⟩ => ?_
  rw [e]
  exact ret_own h rfl fun r hr => hq r S hr hm
end Mine
end
section
open PySem PySem.W PyProof.Rows PySem.SeqAt
open Builtin Builtin.ObjectAttr
set_option maxRecDepth 100000
set_option autoImplicit false
set_option linter.unusedVariables false
namespace Mine
/-- the body, the scope of the exception's __init__ -/
def initB : List Stmt := match PySem.Challenge.pw_bn5030_01.main.body[(2 : Nat)]? with
  | some (.ClassDef _ _ _ (.FunctionDef _ _ b _ _ _ _ _ _ _ :: _) _ _ _ _ _ _ _) => b
  | _ => []
def initS : Scope := match PySem.Challenge.pw_bn5030_01.main.body[(2 : Nat)]? with
  | some (.ClassDef _ _ _ (.FunctionDef _ _ _ _ _ _ s _ _ _ :: _) _ _ _ _ _ _ _) => s
  | _ => default
abbrev excBm : List Value := [.type "Exception", .type "BaseException", .type "object"]
/-- what is told of the exception's class -/
structure ExcK where
  nm : Str
  q : Str
  C : Addr
  N : Addr
  bs : List Value
  sn : List Str
  sub : List Value
  ab : Bool
  col : Option Bool
  k0 : Option Value
  k1 : Option Value
  k2 : Option Value
  k3 : Option Value
  k5 : Option Value
  mN : Str → Option Value
  f : Addr
structure ExcIn (K : ExcK) (h : Heap) : Prop where
  cls : h.get? K.C = some (excClassObj K.nm K.q K.C K.N K.bs excBm true K.sn K.sub K.ab K.col none K.k0 K.k1 K.k2 K.k3 K.k5 "Exception.__new__")
  ns : h.Ns K.N K.mN
  init : K.mN "__init__" = some (.ref K.f)
  ga : K.mN "__getattribute__" = none
  gt : K.mN "__getattr__" = none
  sa : K.mN "__setattr__" = none
  cy : K.mN "cycles" = none
  ed : K.mN "edges" = none
  fn : ∃ o fd, h.get? K.f = some o ∧ o.cls = .type "function" ∧ o.data = .func fd ∧ h.CodeRec fd.code fd.qualname ∧ fd.body = .stmts initB ∧ fd.closure = [] ∧ fd.globals = mainGlobals ∧ fd.builtins = builtinsNs ∧ fd.scope = initS ∧
    ∀ vals : List Value, vals.length = 4 → bindArgs fd ⟨vals, []⟩ = pure ((["self", "message", "cycles", "edges"] : List Str).zip vals)
theorem ExcIn.ext {K : ExcK} {h h' : Heap} (x : ExcIn K h) (e : Ext h h') : ExcIn K h' where
  cls := e _ _ x.cls
  ns := x.ns.at' fun o => e _ o
  init := x.init
  ga := x.ga
  gt := x.gt
  sa := x.sa
  cy := x.cy
  ed := x.ed
  fn := let ⟨o, fd, h1, h2, h3, h4, r⟩ := x.fn; ⟨o, fd, e _ _ h1, h2, h3, h4.keeps fun b o => e b o, r⟩
theorem lk_cycles : typeLookup (.type "Exception") "cycles" = pure none := by rw [typeLookup_type, builtinLookup_eq_fast]; kernel_rfl
theorem lk_edges : typeLookup (.type "Exception") "edges" = pure none := by rw [typeLookup_type, builtinLookup_eq_fast]; kernel_rfl
section
variable {P : Program} {w : World} {A : Around} {s : Shared}
set_option maxHeartbeats 1000000 in
theorem exc_set1 {K : ExcK} {e : Addr} {vs : Array Value} {name : Str} {v : Value} {hp : Heap} {g : Array GenState} {d : Drawn} {t tk : Nat} {os : OsState} {Q : Fin → Shared → Prop} {E : Value → Shared → Prop} (X : ExcIn K hp) (he : hp.get? e = some { cls := .ref K.C, data := .fields vs })
    (hna : K.mN name = none) (hB : typeLookup (.type "Exception") name = pure none)
    (h : ∀ h' tk dx, hp.get? dx = none → dx ≠ e → (∀ b o, b ≠ e → hp.get? b = some o → h'.get? b = some o) → h'.get? e = some { cls := .ref K.C, dict := some dx, data := .fields vs } → h'.Ns1 dx (fun y => if y = name then some v else none) → Q (.done (.ret .none)) ⟨h', g, d, tk, os⟩) :
    wpAny (model P w) A (Builtin.«object.__setattr__» ⟨[.ref e, .str name tk, v], []⟩) Q E ⟨hp, g, d, t, os⟩ := by
  have SF := PySem.F.store_Exception
  have hC := X.cls
  have hpass := SF.passes (.ref e)
  unfold Builtin.«object.__setattr__»
  generalize hSO : @storeInOwnDict = SO
  repeat (first | rw [refuse_eq] | (rw [refuseLoop_ref, hpass]) | (with_reducible refine wpAny_loadPart_at he ?_) | with_reducible refine wpAny_mroOf_exc hC ?_ | (with_reducible refine wpAny_typeLookup_exc hC X.ns SF.mro hB ?_; rw [hna]) | wp_step)
  subst hSO
  unfold storeInOwnDict
  generalize hSD : @storeInDict = SD
  repeat (first | (with_reducible refine wpAny_loadPart_at he ?_) | with_reducible refine wpAny_mroOf_exc hC ?_ | wp_step)
  subst hSD
  have hxs : e ≠ hp.objs.size := Nat.ne_of_lt (Heap.lt_size he)
  have he₁ : (hp.push { cls := .type "dict", data := .dict #[] }).get? e = some { cls := .ref K.C, data := .fields vs } := Heap.get?_push_of_some _ he
  have gd : ((hp.push { cls := .type "dict", data := .dict #[] }).update e fun o => { cls := o.cls, dict := some hp.objs.size, data := o.data, slots := o.slots }).get? hp.objs.size = some { cls := .type "dict", data := .dict #[] } :=
    (Heap.get?_update_other _ _ hxs).trans (Heap.get?_push_size _ rfl)
  have ge : ((hp.push { cls := .type "dict", data := .dict #[] }).update e fun o => { cls := o.cls, dict := some hp.objs.size, data := o.data, slots := o.slots }).get? e = some { cls := .ref K.C, dict := some hp.objs.size, data := .fields vs } :=
    Heap.get?_update_self _ he₁ rfl
  have nd : ((hp.push { cls := .type "dict", data := .dict #[] }).update e fun o => { cls := o.cls, dict := some hp.objs.size, data := o.data, slots := o.slots }).Ns hp.objs.size (fun _ => none) :=
    ⟨_, #[], _, gd, rfl, fun x hx => absurd hx (by simp), fun _ => rfl⟩
  unfold storeInDict newKeyGuard
  refine wpAny_bind (wpAny_pure (wpAny_bind (wpAny_nsSet1 (Heap.Ns1.of_empty nd) fun h' hn' hs => ?_)))
  obtain ⟨oD, esD, epD, hoD, hdD, hcD⟩ := hn'.count (Within.cons name v Within.nil)
  refine wpAny_bind (wpAny_lookBehind hoD (by rw [hdD]; exact pastItsLine_dict (Nat.le_trans hcD (by rw [List.length_cons, List.length_nil, sizeLine_eq]; omega))) ?_)
  refine wpAny_pure (h h' _ hp.objs.size (Heap.get?_none_of_le (Nat.le_refl _)) (Ne.symm hxs) (fun b o hb hbo => ?_) ((hs.2 e hxs).trans ge) hn')
  have hbl : b ≠ hp.objs.size := Nat.ne_of_lt (Heap.lt_size hbo)
  exact (hs.2 b hbl).trans ((Heap.get?_update_other _ _ (Ne.symm hb)).trans (Heap.get?_push_of_some _ hbo))
theorem exc_storeB {B sa owner newId : String} {C N : Addr} {e : Addr} {vs : Array Value} {name : Str} {v : Value} {bm : List Value} {mN : Str → Option Value} {Q : Unit → Shared → Prop} {E : Value → Shared → Prop} (SF : StoreFacts B bm sa owner)
    {hp : Heap} {g : Array GenState} {d : Drawn} {t : Nat} {os : OsState} {nm q : Str} {bs : List Value} {sn : List Str} {sub : List Value} {ab : Bool} {col : Option Bool} {dd : Option Addr} {k0 k1 k2 k3 k5 : Option Value}
    (hC : hp.get? C = some (excClassObj nm q C N bs bm true sn sub ab col dd k0 k1 k2 k3 k5 newId)) (hn : hp.Ns N mN) (hns : mN "__setattr__" = none) (he : hp.get? e = some { cls := .ref C, data := .fields vs })
    (h : ∀ (A' : Around) (tk : Nat) (F : Fin → Shared → Prop) (E' : Value → Shared → Prop), (∀ s', Q () s' → F (.done (.ret .none)) s') → wpAny (model P w) A' (Builtin.«object.__setattr__» ⟨[.ref e, .str name tk, v], []⟩) F E' ⟨hp, g, d, t + 1, os⟩) :
    wpAny (model P w) A (setAttr (.ref e) name v) Q E ⟨hp, g, d, t, os⟩ := by
  have f3 := SF.slot.bind (.ref e)
  unfold setAttr callSpecial? specialOf
  repeat (any_goals (first | assumption | (with_reducible refine wpAny_loadPart_at he ?_) | (with_reducible refine wpAny_typeLookup_exc hC hn SF.mro SF.slot.lookup ?_; rw [hns]) | wp_step))
  refine codeAny_call_builtin SF.slot.plain SF.entry (wpAny_check_sa SF hC he rfl (h _ _ _ _ fun s' hq => ?_))
  refine wpAny_pure ?_
  dsimp only
  exact wpAny_pure hq
theorem exc_store1 {K : ExcK} {e : Addr} {vs : Array Value} {name : Str} {v : Value} {Q : Unit → Shared → Prop} {E : Value → Shared → Prop} (X : ExcIn K s.heap) (he : s.heap.get? e = some { cls := .ref K.C, data := .fields vs })
    (hna : K.mN name = none) (hB : typeLookup (.type "Exception") name = pure none)
    (h : ∀ h' tk dx, s.heap.get? dx = none → dx ≠ e → (∀ b o, b ≠ e → s.heap.get? b = some o → h'.get? b = some o) → h'.get? e = some { cls := .ref K.C, dict := some dx, data := .fields vs } → h'.Ns1 dx (fun y => if y = name then some v else none) → Q () { s with heap := h', toks := tk }) :
    wpAny (model P w) A (setAttr (.ref e) name v) Q E s := by
  obtain ⟨hp, g, d, t, os⟩ := s
  exact exc_storeB PySem.F.store_Exception X.cls X.ns X.sa he fun A' tk F E' hF => exc_set1 X he hna hB fun h' tk' dx h1 h2 h3 h4 h5 => hF _ (h h' tk' dx h1 h2 h3 h4 h5)
/-- what __init__ does -/
theorem exc_init {K : ExcK} {e : Addr} {vs : Array Value} {m c d : Value} {Q : Value → Shared → Prop} {E : Value → Shared → Prop} (hh : A.handled = none) (hroom : A.depth < recursionLimit) (hl : s.heap.NoLimit) (X : ExcIn K s.heap) (he : s.heap.get? e = some { cls := .ref K.C, data := .fields vs })
    (h : ∀ h' tk o, (∀ b o, b ≠ e → s.heap.get? b = some o → h'.get? b = some o) → h'.get? e = some o → o.cls = .ref K.C → o.data = .fields vs → h'.Inst e K.C (fun y => if y = ("edges" : Str) then some d else if y = ("cycles" : Str) then some c else none) →
      (∀ dx, o.dict = some dx → s.heap.get? dx = none) → Q .none { s with heap := h', toks := tk }) :
    wpAny (model P w) A (call (.ref K.f) [.ref e, m, c, d]) Q E s := by
  obtain ⟨o, fd, h1, h2, h3, h4, hbody, hclo, hg, hb, hs, hbind⟩ := X.fn
  have heC : e ≠ K.C := fun q => by rw [q, X.cls] at he; exact absurd (congrArg Obj.cls (Option.some.inj he)) (by intro x; cases x)
  refine wpAny_call (codeAny_call_def (binds := (["self", "message", "cycles", "edges"] : List Str).zip [.ref e, m, c, d]) hroom h1 h3 hl h4 hbody (BindsTo.of_eq (hbind _ rfl)) ?_ ?_ (fun h₀ hns hx => ?_) (by rw [hs]; rfl) (by rw [hs]; rfl) (by rw [hs]; rfl))
  · rw [hs]; decide +kernel
  · rw [hs]
    intro x hx
    rcases (by simpa using hx) with rfl | rfl | rfl | rfl <;> rfl
  generalize henv : callEnv fd s.heap.objs.size K.f = env at *
  have hL : env.locals = s.heap.objs.size := by rw [← henv]; rfl
  have hsc : env.scope = initS := by rw [← henv]; exact hs
  have hk : env.scope.kind = .function := by rw [hsc]; rfl
  have hkind : ∀ x, env.kindOf x = initS.names.lookup x := fun x => by unfold Env.kindOf; rw [hsc]
  rw [← hL] at hns
  have nm : ∀ (x : Str) (v : Value) (pos : Pos) (s' : Shared) (Q' : Value → Shared → Prop) (E' : Value → Shared → Prop), initS.names.lookup x = some .local → (x == ("__debug__" : Str)) = false → ((["self", "message", "cycles", "edges"] : List Str).zip [Value.ref e, m, c, d]).reverse.lookup x = some v → s'.heap.Ns env.locals (fun x => ((["self", "message", "cycles", "edges"] : List Str).zip [Value.ref e, m, c, d]).reverse.lookup x) → Q' v s' →
      wpAny (model P w) (A.deeper env) (eval (.Name x pos) env) Q' E' s' := fun x v pos s' Q' E' h1 h2 h3 h4 h5 => wpAny_Name (wpAny_loadName_local hk ((hkind x).trans h1) h4 h3 h5) h2
  refine wpAny_execs_cons (wpAny_Assign_stores ?_ rfl ?_)
  rotate_left
  · unfold swappedStores
    dsimp only
    split
    · rfl
    · rfl
  refine wpAny_Tuple_spliced (Calls.spliced_cons (nm "cycles" c _ _ _ _ rfl (by decide) rfl hns (Calls.spliced_cons (nm "edges" d _ _ _ _ rfl (by decide) rfl hns (Calls.spliced_nil ⟨by show 2 ≤ sizeLine; decide, ?_⟩)))))
  show wpAny _ _ (assign _ env (.ref h₀.objs.size)) _ _ { s with heap := h₀.push (tupObj #[c, d] 0), toks := _ }
  refine wpAny_assign_Tuple hh ⟨_, Heap.get?_push_size _ rfl, rfl, 0, rfl⟩ rfl rfl fun h1 hx1 => ?_
  have x01 : Ext s.heap h1 := fun b o hb => ext_of_but hx1 _ _ (Ext.push _ _ _ _ (hx b o hb))
  have ns1 : h1.Ns env.locals (fun x => ((["self", "message", "cycles", "edges"] : List Str).zip [Value.ref e, m, c, d]).reverse.lookup x) := hns.at' fun o ho => ext_of_but hx1 _ _ (Ext.push _ _ _ _ ho)
  have hLe : env.locals ≠ e := by rw [hL]; exact Nat.ne_of_gt (Heap.lt_size he)
  refine assignInOrder_cons ?_
  dsimp only
  rw [arm_assign_Attribute]
  refine wpAny_bind (wpAny_holding (nm "self" (.ref e) _ _ _ _ rfl (by decide) rfl ns1 (wpAny_bind (wpAny_standAt ?_))))
  refine wpAny_bind (wpAny_holding (exc_store1 (X.ext x01) (x01 _ _ he) X.cy lk_cycles fun h2 tk2 dx d1 d2 d3 d4 d5 => ?_))
  refine wpAny_release ?_
  refine assignInOrder_cons ?_
  dsimp only
  rw [arm_assign_Attribute]
  refine wpAny_bind (wpAny_holding (nm "self" (.ref e) _ _ _ _ rfl (by decide) rfl (ns1.at' fun o ho => d3 _ _ hLe ho) (wpAny_bind (wpAny_standAt ?_))))
  have x2 : ∀ b o, b ≠ e → s.heap.get? b = some o → h2.get? b = some o := fun b o hb ho => d3 b o hb (x01 _ _ ho)
  have I2 : h2.Inst e K.C (fun y => if y = ("cycles" : Str) then some c else none) := ⟨_, d4, rfl, (fun c q => by cases q), .inr ⟨dx, rfl, d2, d5⟩⟩
  have hCne : K.C ≠ e := Ne.symm heC
  have hsdx : s.heap.get? dx = none := by
    cases q : s.heap.get? dx with
    | none => rfl
    | some o => have := x01 _ _ q; rw [d1] at this; cases this
  have hN : h2.Ns K.N K.mN := X.ns.at' fun o ho => x2 _ _ (fun q => by
    obtain ⟨o', es, ep, g', hd', _⟩ := X.ns
    rw [q, he] at g'; cases g'; cases hd') ho
  refine wpAny_bind (wpAny_holding (store_attr (h := h2) PySem.F.store_Exception (x2 _ _ hCne X.cls) hN X.sa X.ed lk_edges heC I2 (fun h3 tk3 I3 k3 same3 => ?_)))
  obtain ⟨o₁, g1, c1, da1, sl1, di1⟩ := same3 _ d4
  refine wpAny_release (assignInOrder_nil ?_)
  refine wpAny_execs_nil ?_
  refine h h3 tk3 o₁ (fun b o hb ho => k3 b o hb (fun o₀ dx' h0 hdx' => ?_) (x2 b o hb ho)) g1 c1 da1 I3 fun dx' hdx' => ?_
  · rw [d4] at h0; cases h0; cases hdx'
    exact fun q => by rw [q, hsdx] at ho; cases ho
  · have := di1 dx rfl
    rw [this] at hdx'; cases hdx'; exact hsdx
end
end Mine
end
section
open PySem PySem.W PyProof.Rows PySem.SeqAt
open Builtin Builtin.ObjectAttr
set_option maxRecDepth 100000
set_option autoImplicit false
set_option linter.unusedVariables false
namespace Mine
section
variable {prog : Program} {w : World} {A : Around} {E : Value → Shared → Prop} {h : Heap} {g : Array GenState} {d : Drawn} {t : Nat} {os : OsState}
variable {nm q : Str} {C N f : Addr} {bs bm : List Value} {sn : List Str} {sub : List Value} {ab : Bool} {col : Option Bool} {dd : Option Addr} {k0 k1 k2 k3 k5 : Option Value} {B newId initId : String}
theorem typeOf_at {M : Model} {A : Around} {s : Shared} {a : Addr} {o : Obj} {Q : Value → Shared → Prop} (ho : s.heap.get? a = some o) (hq : Q o.cls s) : wpAny M A (typeOf (.ref a)) Q E s := by
  unfold typeOf
  exact wpAny_bind (wpAny_loadPart ho (wpAny_pure hq))
/-- the class called: what __init__ makes of the new one -/
theorem exc_called (F : ExcBaseFacts B newId initId bm) {mN : Str → Option Value} {rest : List Value} {of : Obj} {Q : Fin → Shared → Prop}
    (hC : h.get? C = some (excClassObj nm q C N bs bm true sn sub ab col dd k0 k1 k2 k3 k5 newId)) (hn : h.Ns N mN) (hni : mN "__init__" = some (.ref f)) (hf : h.get? f = some of) (hfc : of.cls = .type "function")
    (hq : ∀ h1 e, Ext h h1 → h.get? e = none → (∃ tu, h1.get? e = some { cls := .ref C, data := .fields #[.ref tu, .none, .none, .none, .bool false, .none] }) →
      wpAny (model prog w) A (call (.ref f) (.ref e :: rest)) (fun v s' => v = .none ∧ Q (.done (.ret (.ref e))) s') E ⟨h1, g, d, t, os⟩) (hrest : rest.length ≤ sizeLine := by size_fits) :
    wpAny (model prog w) A (Builtin.«type.__call__» ⟨.ref C :: rest, []⟩) Q E ⟨h, g, d, t, os⟩ := by
  repeat (first | with_reducible refine wpAny_loadPart_at hC ?_ | with_reducible refine wpAny_madeBy_exc hC ?_ | wp_step)
  refine codeAny_call_builtin_code (Code.quiet_builtin _ F.quiet) (wpAny_check_new_sub F hC ?_)
  refine codeAny_exc_new_sub F hC ?_ hrest
  show wpAny _ _ _ _ _ _
  have x1 : Ext h ((h.push { cls := .type "tuple", data := .seq rest.toArray }).push { cls := .ref C, data := .fields #[.ref h.objs.size, .none, .none, .none, .bool false, .none] }) := (Ext.push _ _).trans (Ext.push _ _)
  have hget : ((h.push { cls := .type "tuple", data := .seq rest.toArray }).push
      { cls := .ref C, data := .fields #[.ref h.objs.size, .none, .none, .none, .bool false, .none] }).get? (h.objs.size + 1) = some
      { cls := .ref C, data := .fields #[.ref h.objs.size, .none, .none, .none, .bool false, .none] } := by heap_get
  have hcC : (Value.ref C :: bm).contains (.ref C) = true := by simp
  have key := hq _ (h.objs.size + 1) x1 (Heap.get?_none_of_le (Nat.le_succ _)) ⟨_, hget⟩
  generalize hcall : call (.ref f) (.ref (h.objs.size + 1) :: rest) = CL at key
  unfold isInstance
  refine wpAny_bind ?_
  refine wpAny_bind (typeOf_at hget ?_)
  refine wpAny_isSubtype_exc (x1 _ _ hC) ?_
  rw [hcC]
  simp only [Bool.not_true, Bool.false_eq_true, if_false]
  refine wpAny_bind ?_
  refine wpAny_holding ?_
  unfold callSpecial? specialOf
  refine wpAny_bind (wpAny_bind (typeOf_at hget ?_))
  refine wpAny_typeLookup_exc (x1 _ _ hC) (hn.at' fun o => x1 _ o) F.mroIs F.init.lookup ?_
  rw [hni]
  dsimp only
  refine wpAny_holding ?_
  refine wpAny_bind ?_
  unfold bindSpecial
  refine wpAny_bind (wpAny_typeOf (T := "function") ⟨_, x1 _ _ hf, hfc⟩ ?_)
  rw [if_pos (by decide)]
  refine wpAny_pure ?_
  dsimp only
  refine wpAny_bind ?_
  show wpAny _ _ (call (.ref f) (.ref (h.objs.size + 1) :: rest)) _ _ _
  rw [hcall]
  refine wpAny_mono key (fun v s' ⟨hv, hQ⟩ => ?_) fun _ _ x => x
  subst hv
  refine wpAny_pure ?_
  dsimp only
  exact wpAny_pure hQ
/-- CircularDependencyError(m, c, d) -/
theorem exc_made {K : ExcK} {m c d' : Value} {s : Shared} {Q : Value → Shared → Prop} (hh : A.handled = none) (hroom : A.depth + 5 < recursionLimit) (hl : s.heap.NoLimit) (X : ExcIn K s.heap)
    (hq : ∀ h' tk e o tu, Ext s.heap h' → s.heap.get? e = none → h'.get? e = some o → o.cls = .ref K.C → o.data = .fields #[.ref tu, .none, .none, .none, .bool false, .none] →
      h'.Inst e K.C (fun y => if y = ("edges" : Str) then some d' else if y = ("cycles" : Str) then some c else none) → (∀ dx, o.dict = some dx → s.heap.get? dx = none) → Q (.ref e) { s with heap := h', toks := tk }) :
    wpAny (model prog w) A (call (.ref K.C) [m, c, d']) Q E s := by
  obtain ⟨hp, g, d, t, os⟩ := s
  have hC := X.cls
  obtain ⟨of, fd, hf, hfc, hrest⟩ := X.fn
  have f1 := tc_lookup
  have f2 := tc_bind (.ref K.C)
  have hT : (⟨hp, g, d, t, os⟩ : Shared).TypeIs (.ref K.C) "type" := ⟨_, hC, rfl⟩
  refine wpAny_call (codeAny_of_tree ?_)
  show wpAny _ _ (callAny (.ref K.C) _) _ _ _
  repeat (any_goals (first | assumption | with_reducible refine wpAny_loadPart_at hC ?_ | wp_step))
  refine ⟨rfl, ?_⟩
  refine codeAny_call_builtin_at (Code.quiet_builtin _ (by decide +kernel)) entry_typeCall (wpAny_check_type_call_sub hC (exc_called PySem.F.excBase_Exception hC X.ns X.init hf hfc (fun h1 e x1 hn1 ⟨tu, he⟩ => ?_) (by show 3 ≤ sizeLine; decide)))
  refine exc_init (s := ⟨h1, g, d, t, os⟩) hh ?_ (hl.keeps x1) (X.ext x1) he fun h2 tk2 o k2 g2 c2 da2 I2 di2 => ⟨rfl, ?_⟩
  · have hw : (Code.builtin "type.__call__" ⟨[.ref K.C, m, c, d'], []⟩).weight = 1 := rfl
    show A.depth + (Code.builtin "type.__call__" ⟨[.ref K.C, m, c, d'], []⟩).weight < _
    omega
  · show Q (.ref e) ⟨h2, g, d, tk2, os⟩
    have hnd : ∀ dx, o.dict = some dx → hp.get? dx = none := fun dx hdx => by
      cases q : hp.get? dx with
      | none => rfl
      | some o' => have := x1 _ _ q; rw [di2 dx hdx] at this; cases this
    exact hq h2 tk2 e o tu (fun b ob hb => k2 b ob (fun q => by rw [q, hn1] at hb; cases hb) (x1 _ _ hb)) hn1 g2 c2 da2 I2 hnd
end
end Mine
end
section
open PySem PySem.W PyProof.Rows PySem.SeqAt
open Builtin Builtin.ObjectAttr
set_option maxRecDepth 100000
set_option autoImplicit false
set_option linter.unusedVariables false
namespace Mine
section
variable {prog : Program} {w : World} {A : Around} {E : Value → Shared → Prop} {h : Heap} {g : Array GenState} {d : Drawn} {t : Nat} {os : OsState}
variable {nm q : Str} {C N x : Addr} {bs bm : List Value} {sn : List Str} {sub : List Value} {ab : Bool} {col : Option Bool} {dd : Option Addr} {k0 k1 k2 k3 k5 : Option Value} {B newId : String} {mN mA : Str → Option Value} {name : Str} {v : Value}
theorem own_entry {tk : Tok} {Q : Fin → Shared → Prop} (FB : ExcAttrBase B bm) (hC : h.get? C = some (excClassObj nm q C N bs bm true sn sub ab col dd k0 k1 k2 k3 k5 newId)) (hn : h.Ns N mN) (hna : mN name = none)
    (hB : typeLookup (.type B) name = pure none) (I : h.Inst x C mA) (hv : mA name = some v) (hq : Q (.done (.ret v)) ⟨h, g, d, t, os⟩) :
    wpAny (model prog w) A (Builtin.«object.__getattribute__» ⟨[.ref x, .str name tk], []⟩) Q E ⟨h, g, d, t, os⟩ := by
  obtain ⟨o, hx, hc, hnc, hd⟩ := I
  rcases hd with ⟨_, hmA⟩ | ⟨dx, hdx, hne, hns⟩
  · rw [hmA name] at hv; cases hv
  unfold Builtin.«object.__getattribute__»
  repeat (first | (with_reducible refine wpAny_loadPart_at hx ?_; rw [hc]) | (with_reducible refine wpAny_typeLookup_exc hC hn FB.mro hB ?_; rw [hna]) | wp_step)
  split
  · rename_i c hcd
    exact absurd hcd (hnc c)
  unfold instanceDict
  repeat (first | (with_reducible refine wpAny_loadPart_at hx ?_; rw [hc]) | with_reducible refine wpAny_loadPart_at hC ?_ | wp_step)
  rw [hdx]
  repeat (first | (with_reducible refine wpAny_nsGet hns.ns ?_; rw [hv]) | wp_step)
  exact hq
theorem own_by {tk : Tok} {fill expr : Bool} {Q : Value → Shared → Prop} (FB : ExcAttrBase B bm) (hC : h.get? C = some (excClassObj nm q C N bs bm true sn sub ab col dd k0 k1 k2 k3 k5 newId)) (hn : h.Ns N mN) (hga : mN "__getattribute__" = none) (hgt : mN "__getattr__" = none) (hna : mN name = none)
    (hB : typeLookup (.type B) name = pure none) (I : h.Inst x C mA) (hv : mA name = some v) (hh : handedOut v = pure v) (hq : Q v ⟨h, g, d, t, os⟩) :
    wpAny (model prog w) A (getAttrBy (.ref x) (.str name tk) fill expr) Q E ⟨h, g, d, t, os⟩ := by
  obtain ⟨o, hx, hc, _⟩ := id I
  have f3 := FB.ga.bind (.ref x)
  have hx0 : (expr && onTheHeap (Value.builtin "BaseException.__getattribute__")) = false := by cases expr <;> rfl
  have hx2 : (Value.builtin "BaseException.__getattribute__" == Value.builtin "object.__getattribute__") = false := by decide +kernel
  have hx1 : (onTheHeap (Value.ref C) && Value.builtin "BaseException.__getattribute__" == Value.builtin "object.__getattribute__") = false := by rw [hx2]; rfl
  repeat (any_goals (first | assumption | (with_reducible refine wpAny_loadPart_at hx ?_; rw [hc]) | (with_reducible refine wpAny_typeLookup_exc hC hn FB.mro FB.ga.lookup ?_; rw [hga]) | (with_reducible refine wpAny_typeLookup_exc hC hn FB.mro FB.noGetattr ?_; rw [hgt]) | wp_step))
  refine codeAny_call_builtin FB.ga.plain PySem.F.entry_bexc_ga (wpAny_check_ga_own FB hC .base hx hc (own_entry FB hC hn hna hB I hv ?_))
  repeat (any_goals (first | assumption | wp_step))
/-- told.cycles, told.edges -/
theorem exc_load {K : ExcK} {e : Addr} {mA : Str → Option Value} {b : Addr} {s : Shared} {expr : Bool} {Q : Value → Shared → Prop} (X : ExcIn K s.heap) (I : s.heap.Inst e K.C mA) (hv : mA name = some (.ref b)) (hna : K.mN name = none)
    (hB : typeLookup (.type "Exception") name = pure none) (hq : Q (.ref b) { s with toks := s.toks + 1 }) :
    wpAny (model prog w) A (getAttr (.ref e) name expr) Q E s := by
  obtain ⟨hp, g, d, t, os⟩ := s
  unfold getAttr
  refine wpAny_bind (wpAny_mkText ?_)
  exact own_by PySem.F.attrBase_Exception X.cls X.ns X.ga X.gt hna hB I hv rfl hq
end
end Mine
end
section
open PySem PySem.W PyProof.Rows PySem.SeqAt
open Builtin Builtin.ObjectAttr
set_option maxRecDepth 100000
set_option autoImplicit false
set_option linter.unusedVariables false
namespace Mine
/-- a frame of the stack stands in the heap -/
def FrameOk (h : Heap) (e : Env) : Prop := (e.scope.kind ≠ .module ∧ ∀ L, e.frame = some L → 126 < L) ∧ ∃ L o, e.frame = some L ∧ h.get? L = some o ∧ o.cls = .type "frame"
theorem FrameOk.k {h h' : Heap} {e : Env} (x : FrameOk h e) (k : ∀ b o, h.get? b = some o → o.cls = .type "frame" → Kept h' b o) : FrameOk h' e :=
  let ⟨a, L, o, f, g, c⟩ := x; let ⟨o', g', c', _⟩ := (k L o g c).data; ⟨a, L, o', f, g', c'.trans c⟩
section
variable {M : Model} {A : Around} {E : Value → Shared → Prop} {s : Shared} {env : Env}
theorem exc_raise {K : ExcK} {x : Sem Value} {Q : Flow → Shared → Prop} (hh : A.handled = none)
    (h : wpAny M A x (fun v s₁ => ∃ e o tu, v = .ref e ∧ ExcIn K s₁.heap ∧ s₁.heap.get? e = some o ∧ o.cls = .ref K.C ∧ o.data = .fields #[.ref tu, .none, .none, .none, .bool false, .none] ∧ E (.ref e) s₁) E s) :
    wpAny M A (raiseStmt env (some x) none) Q E s := by
  have hcB : (Value.ref K.C :: excBm).contains (.type "BaseException") = true := by rw [List.contains_cons, show excBm.contains (.type "BaseException") = true from by decide, Bool.or_true]
  unfold raiseStmt
  refine wpAny_bind (wpAny_mono h (fun v s₁ h₁ => ?_) fun _ _ x => x)
  obtain ⟨e, o, tu, rfl, X, he, hc, hd, hE⟩ := h₁
  have hC := X.cls
  obtain ⟨hp, g, d, tk, os⟩ := s₁
  repeat (first | (with_reducible refine wpAny_loadPart_at he ?_) | (rw [hc]) | (rw [hd]) | with_reducible refine wpAny_loadPart_at hC ?_ | (with_reducible refine wpAny_isSubtype_exc hC ?_; rw [hcB]) | wp_step)
  exact wpAny_raiseNew_none hh hE
theorem slots_alive {o : Obj} {sl : Array (Option Value)} (h : o.isFreed = false) : ({ o with slots := sl } : Obj).isFreed = false := by
  obtain ⟨c, d, dt, s⟩ := o; cases dt <;> first | rfl | exact h
/-- the frames are made ready: their slots alone change -/
theorem ready_ok : ∀ (l : List Env) (s : Shared) {Q : Unit → Shared → Prop}, (∀ e ∈ l, FrameOk s.heap e) → (∀ h', ExtK s.heap h' → Q () { s with heap := h' }) → wpAny M A (readyFrames l) Q E s
  | [], s, Q, _, h => wpAny_pure (h s.heap (Ext.refl _).k)
  | e :: outer, s, Q, hl, h => by
    obtain ⟨hk, L, o, hf, ho, hc⟩ := hl e List.mem_cons_self
    simp only [readyFrames, hf]
    refine wpAny_bind (wpAny_load ho ?_)
    by_cases hr : ((o.slots.getD 3 none).isSome) = true
    · rw [if_pos hr]; exact wpAny_pure (h _ (Ext.refl _).k)
    · rw [if_neg hr]
      refine wpAny_bind (wpAny_of_eq (a := false) (by simp [behindIsImport, hk.1]) ?_)
      have alive : o.isFreed = false := (Heap.get?_some_iff.mp ho).2
      have go : ∀ back : Value, wpAny M A (do
          update L fun o => { o with slots := #[some e.code, some (.ref e.globals), o.slots.getD 2 none, some back, o.slots.getD 4 none, e.func.map Value.ref,
                                            some (.ref e.builtins)] ++ (e.cells.map fun c => some (.ref c.2)).toArray }
          readyFrames outer) Q E s := fun back => by
        refine wpAny_bind (wpAny_update ho ?_)
        have k : ExtK s.heap (s.heap.update L fun o => { o with slots := #[some e.code, some (.ref e.globals), o.slots.getD 2 none, some back, o.slots.getD 4 none, e.func.map Value.ref,
                                            some (.ref e.builtins)] ++ (e.cells.map fun c => some (.ref c.2)).toArray }) := fun b ob hb => by
          by_cases q : b = L
          · subst q
            rw [ho] at hb; cases hb
            exact ⟨_, Heap.get?_update_self _ ho (slots_alive alive), .inr ⟨hk.2 _ hf, hc, rfl, rfl, rfl⟩⟩
          · exact .of ((Heap.get?_update_other _ _ (Ne.symm q)).trans hb)
        exact ready_ok outer _ (fun e' he' => (hl e' (List.mem_cons_of_mem _ he')).k fun b ob hb _ => k b ob hb) fun h' k' => h h' (k.trans k')
      cases outer with
      | nil => exact wpAny_bind (wpAny_keptBack_nil fun v => go v)
      | cons c r => exact wpAny_bind (wpAny_pure (go _))
/-- what stands since h0, and else all but tracebacks and these exceptions -/
def Stands (K : ExcK) (h0 h h' : Heap) : Prop := ∀ b o, h.get? b = some o → (h0.get? b ≠ none ∨ (o.cls ≠ .type "traceback" ∧ o.cls ≠ .ref K.C)) → Kept h' b o
theorem ExtK.stands {K : ExcK} {h0 h h' : Heap} (x : ExtK h h') : Stands K h0 h h' := fun b o g _ => x b o g
theorem Stands.trans {K : ExcK} {h0 a b c : Heap} (x : Stands K h0 a b) (y : Stands K h0 b c) : Stands K h0 a c := fun p o g hc => (x p o g hc).trans fun o' g' => by
  refine y p o' g' (hc.imp_right fun ⟨h1, h2⟩ => ?_)
  obtain ⟨o2, g2, c2, _⟩ := (x p o g hc).data
  rw [g'] at g2; cases g2
  rw [c2]; exact ⟨h1, h2⟩
theorem Stands.refl (K : ExcK) (h0 h : Heap) : Stands K h0 h h := (Ext.refl _).k.stands
/-- the exception under way: e, made since h0, holding c and d -/
structure Flying (K : ExcK) (h0 h : Heap) (e c d : Addr) (noted : Bool) : Prop where
  dom : ∀ b, h0.get? b ≠ none → h.get? b ≠ none
  new : h0.get? e = none
  inst : h.Inst e K.C (fun y => if y = ("edges" : Str) then some (.ref d) else if y = ("cycles" : Str) then some (.ref c) else none)
  dic : ∀ o dx, h.get? e = some o → o.dict = some dx → h0.get? dx = none
  dat : ∃ o vs, h.get? e = some o ∧ o.cls = .ref K.C ∧ o.data = .fields vs ∧ vs.size = 6 ∧ vs[2]? = some .none ∧
    ((noted = false ∧ vs[1]? = some .none) ∨ ∃ t ot tv, vs[1]? = some (.ref t) ∧ h.get? t = some ot ∧ ot.cls = .type "traceback" ∧ ot.data = .fields tv ∧ 4 < tv.size ∧ h0.get? t = none ∧ t ≠ e)
theorem drop_found : ∀ (l : List Env) (env : Env), env ∈ l → ∃ x r, l.dropWhile (fun x => x.frame != env.frame) = x :: r ∧ x.frame = env.frame ∧ ∀ y ∈ x :: r, y ∈ l
  | y :: l, env, h => by
    rw [List.dropWhile_cons]
    by_cases q : y.frame = env.frame
    · rw [if_neg (by simpa using q)]
      exact ⟨y, l, rfl, q, fun _ h => h⟩
    · rw [if_pos (by simpa using q)]
      rcases List.mem_cons.mp h with rfl | h
      · exact absurd rfl q
      · obtain ⟨x, r, h1, h2, h3⟩ := drop_found l env h
        exact ⟨x, r, h1, h2, fun z hz => List.mem_cons_of_mem _ (h3 z hz)⟩
theorem frameOf_ok {stack : List Env} {Q : Value → Shared → Prop} (hfr : A.frames = some stack) (hm : env ∈ stack) (hl : ∀ x ∈ stack, FrameOk s.heap x) {L : Addr} (hf : env.frame = some L) (h : ∀ h', ExtK s.heap h' → Q (.ref L) { s with heap := h' }) :
    wpAny M A (PySem.frameOf env) Q E s := by
  obtain ⟨x, r, h1, h2, h3⟩ := drop_found stack env hm
  unfold PySem.frameOf
  refine wpAny_bind (wpAny_frameEnvs hfr ?_)
  rw [h1]
  unfold frameObject
  refine wpAny_bind (wpAny_bind (ready_ok _ _ (fun y hy => hl y (h3 y hy)) fun h' k => wpAny_pure ?_))
  rw [h2, hf]
  exact wpAny_pure (h h' k)
theorem inst_k {K : ExcK} {h h' : Heap} {e : Addr} {mA : Str → Option Value} {o' : Obj} (I : h.Inst e K.C mA) (g' : h'.get? e = some o') (same : ∀ o, h.get? e = some o → o'.cls = o.cls ∧ o'.dict = o.dict ∧ ∀ c, o'.data ≠ .cls c) (k : ∀ dx od es ep, dx ≠ e → h.get? dx = some od → od.data = .dict es ep → ∃ od', h'.get? dx = some od' ∧ od'.data = od.data) : h'.Inst e K.C mA := by
  obtain ⟨o, g, hc, hn, hd⟩ := I
  obtain ⟨s1, s2, s3⟩ := same o g
  refine ⟨o', g', s1.trans hc, s3, ?_⟩
  rcases hd with ⟨d1, d2⟩ | ⟨dx, d1, d2, d3⟩
  · exact .inl ⟨s2.trans d1, d2⟩
  · obtain ⟨od, es, ep, e1, e2, e3, e4, e5⟩ := d3
    obtain ⟨od', f1, f2⟩ := k dx od es ep d2 e1 e2
    exact .inr ⟨dx, s2.trans d1, d2, od', es, ep, f1, f2.trans e2, e3, e4, e5⟩
/-- an object with fields, one of them changed -/
theorem set_fields {h : Heap} {a : Addr} {o : Obj} {vs : Array Value} {k : Nat} {x : Value} (g : h.get? a = some o) (d : o.data = .fields vs) :
    (h.update a (Obj.mapFields (·.setIfInBounds k x))).get? a = some (o.mapFields (·.setIfInBounds k x)) ∧ (o.mapFields (·.setIfInBounds k x)).cls = o.cls ∧ (o.mapFields (·.setIfInBounds k x)).dict = o.dict ∧ (o.mapFields (·.setIfInBounds k x)).data = .fields (vs.setIfInBounds k x) := by
  have hd := Obj.data_mapFields d (·.setIfInBounds k x)
  refine ⟨Heap.get?_update_self _ g (Obj.isFreed_of_fields hd), ?_, ?_, hd⟩
  · obtain ⟨c, dd, dt, sl⟩ := o; dsimp only at d; subst d; rfl
  · obtain ⟨c, dd, dt, sl⟩ := o; dsimp only at d; subst d; rfl
theorem note_tail {K : ExcK} {h0 : Heap} {e c d : Addr} {L : Addr} {head : Value} {hn : Bool} {stack : List Env} {Q : Unit → Shared → Prop} (new : h0.get? e = none) (inst : s.heap.Inst e K.C (fun y => if y = ("edges" : Str) then some (.ref d) else if y = ("cycles" : Str) then some (.ref c) else none))
    (dic : ∀ o dx, s.heap.get? e = some o → o.dict = some dx → h0.get? dx = none)
    (dat : ∃ o vs, s.heap.get? e = some o ∧ o.cls = .ref K.C ∧ o.data = .fields vs ∧ vs.size = 6 ∧ vs[2]? = some .none) (dom : ∀ b, h0.get? b ≠ none → s.heap.get? b ≠ none)
    (hfr : A.frames = some stack) (hm : env ∈ stack) (hl : ∀ x ∈ stack, FrameOk s.heap x) (hf : env.frame = some L)
    (h : ∀ h', Stands K h0 s.heap h' → Flying K h0 h' e c d true → (∀ x ∈ stack, FrameOk h' x) → Q () { s with heap := h' }) :
    wpAny M A (do setField (.ref e) 1 (← EntryCells.newEntry head (← PySem.frameOf env) .none (rawInt L) .none (← entryPlaceOf L hn)) : Sem Unit) Q E s := by
  obtain ⟨o, vs, g, hc, hd, hsz, h2⟩ := dat
  refine wpAny_bind (frameOf_ok hfr hm hl hf fun h1 k1 => ?_)
  refine wpAny_bind (wpAny_entryPlaceOf fun pl hpl => ?_)
  unfold EntryCells.newEntry newFields
  refine wpAny_bind (wpAny_newObj_type ?_ (hpl.sizeOk5 _ _ _ _ _))
  have nf : o.cls ≠ .type "frame" := by rw [hc]; intro q; cases q
  have g1 : h1.get? e = some o := (k1 _ _ g).exact nf
  generalize htb : ({ cls := .type "traceback", dict := none, data := .fields ([head, .ref L, .none, rawInt L, .none] ++ (if pl.isEmpty then List.replicate 6 Value.none else pl)).toArray } : Obj) = tb
  have htbc : tb.cls = .type "traceback" := by rw [← htb]
  have htbd : tb.data = .fields ([head, .ref L, .none, rawInt L, .none] ++ (if pl.isEmpty then List.replicate 6 Value.none else pl)).toArray := by rw [← htb]
  have htbf : tb.isFreed = false := by rw [← htb]; rfl
  have g2 : (h1.push tb).get? e = some o := Heap.get?_push_of_some _ g1
  refine wpAny_setField g2 hd (by omega) ?_
  obtain ⟨q1, q2, q3, q4⟩ := set_fields (k := 1) (x := .ref h1.objs.size) g2 hd
  have hne : h1.objs.size ≠ e := Nat.ne_of_gt (Heap.lt_size g1)
  have keep : ∀ b ob, b ≠ e → h1.get? b = some ob → ((h1.push tb).update e (Obj.mapFields (·.setIfInBounds 1 (.ref h1.objs.size)))).get? b = some ob := fun b ob hb hob => (Heap.get?_update_other _ _ (Ne.symm hb)).trans (Heap.get?_push_of_some _ hob)
  have gt : ((h1.push tb).update e (Obj.mapFields (·.setIfInBounds 1 (.ref h1.objs.size)))).get? h1.objs.size = some tb := (Heap.get?_update_other _ _ (Ne.symm hne)).trans (Heap.get?_push_size _ htbf)
  refine h _ (fun b ob hob hcond => ?_) ⟨fun b hb => ?_, new, ?_, fun o0 dx g0 hd0 => by rw [q1] at g0; cases g0; exact dic o dx g (q3.symm.trans hd0), ?_⟩ fun x hx => ?_
  · have hbe : b ≠ e := by
      rintro rfl
      rw [g] at hob; cases hob
      rcases hcond with q | ⟨_, q⟩
      · exact q new
      · exact q hc
    exact (k1 b ob hob).trans fun o' g' => .of (keep b o' hbe g')
  · obtain ⟨o1, g9⟩ := Option.ne_none_iff_exists'.mp (dom b hb)
    have hbe : b ≠ e := fun q => hb (q ▸ new)
    obtain ⟨o2, g10, _⟩ := k1 _ _ g9
    rw [keep _ _ hbe g10]; exact fun x => nomatch x
  · refine inst_k inst q1 (fun o0 g0 => by rw [g] at g0; cases g0; exact ⟨q2, q3, fun cc q => by rw [q4] at q; cases q⟩) fun dx od es ep hdx god hod => ?_
    obtain ⟨od', f1, f2, f3, f4⟩ := (k1 dx od god).data
    exact ⟨od', keep _ _ hdx f1, f4⟩
  · refine ⟨_, _, q1, q2.trans hc, q4, by simp [hsz], by rw [Array.getElem?_setIfInBounds]; simp [h2], .inr ⟨h1.objs.size, tb, _, by rw [Array.getElem?_setIfInBounds]; simp [hsz], gt, htbc, htbd, ?_, ?_, hne⟩⟩
    · simp
    · cases q : h0.get? h1.objs.size with
      | none => rfl
      | some o0 =>
        have hlt := dom h1.objs.size (by rw [q]; exact fun x => nomatch x)
        obtain ⟨o1, g9⟩ := Option.ne_none_iff_exists'.mp hlt
        exact absurd (k1 _ _ g9).lt (Nat.lt_irrefl _)
  · refine (hl x hx).k fun b ob hob hcf => ?_
    have hbe : b ≠ e := by rintro rfl; rw [g] at hob; cases hob; exact nf hcf
    exact (k1 b ob hob).trans fun o' g' => .of (keep b o' hbe g')
end
end Mine
end
section
open PySem PySem.W PyProof.Rows PySem.SeqAt
open Builtin Builtin.ObjectAttr
set_option maxRecDepth 100000
set_option autoImplicit false
set_option linter.unusedVariables false
namespace Mine
section
variable {M : Model} {A : Around} {E : Value → Shared → Prop} {s : Shared} {env : Env} {K : ExcK} {h0 : Heap} {e c d : Addr} {stack : List Env}
/-- one field of the traceback at hand is changed -/
theorem tb_set {b : Bool} {t k : Nat} {ot : Obj} {tv vs : Array Value} {o : Obj} {x : Value} {Q : Unit → Shared → Prop} (F : Flying K h0 s.heap e c d b) (g : s.heap.get? e = some o) (hd : o.data = .fields vs) (h1 : vs[1]? = some (.ref t)) (gt : s.heap.get? t = some ot) (hc : ot.cls = .type "traceback") (hdt : ot.data = .fields tv) (hk : k < tv.size) (h4 : 4 < tv.size) (hn : h0.get? t = none) (hte : t ≠ e)
    (hl : ∀ x ∈ stack, FrameOk s.heap x)
    (h : ∀ h', Stands K h0 s.heap h' → Flying K h0 h' e c d true → (∀ x ∈ stack, FrameOk h' x) → h'.get? e = some o → Q () { s with heap := h' }) : wpAny M A (setField (.ref t) k x) Q E s := by
  refine wpAny_setField gt hdt hk ?_
  obtain ⟨q1, q2, q3, q4⟩ := set_fields (k := k) (x := x) gt hdt
  have keep : ∀ b ob, b ≠ t → s.heap.get? b = some ob → (s.heap.update t (Obj.mapFields (·.setIfInBounds k x))).get? b = some ob := fun b ob hb hob => (Heap.get?_update_other _ _ (Ne.symm hb)).trans hob
  obtain ⟨o', vs', g', hc', hd', hsz, h2, _⟩ := F.dat
  rw [g] at g'; cases g'
  rw [hd] at hd'; cases hd'
  have ge := keep e o (Ne.symm hte) g
  refine h _ (fun b ob hob hcond => .of (keep b ob ?_ hob)) ⟨fun b hb => ?_, F.new, ?_, fun o0 dx g0 hd0 => by rw [ge] at g0; cases g0; exact F.dic o dx g hd0, ?_⟩ (fun x hx => (hl x hx).k fun b ob hob hcf => .of (keep b ob ?_ hob)) ge
  · rintro rfl
    rw [gt] at hob; cases hob
    rcases hcond with q | ⟨q, _⟩
    · exact q hn
    · exact q hc
  · have hbt : b ≠ t := fun q => hb (q ▸ hn)
    obtain ⟨o1, g9⟩ := Option.ne_none_iff_exists'.mp (F.dom b hb)
    rw [keep _ _ hbt g9]; exact fun x => nomatch x
  · refine inst_k F.inst ge (fun o0 g0 => by rw [g] at g0; cases g0; exact ⟨rfl, rfl, fun cc q => by rw [hd] at q; cases q⟩) fun dx od es ep hdx god hod => ?_
    exact ⟨od, keep _ _ (by rintro rfl; rw [gt] at god; cases god; rw [hdt] at hod; cases hod) god, rfl⟩
  · exact ⟨o, vs, ge, hc', hd, hsz, h2, .inr ⟨t, _, _, h1, q1, q2.trans hc, q4, by simpa using h4, hn, hte⟩⟩
  · rintro rfl
    rw [gt] at hob; cases hob
    rw [hc] at hcf; exact absurd (Value.type.inj hcf) (by decide)
theorem note_ok {b : Bool} {Q : Unit → Shared → Prop} (F : Flying K h0 s.heap e c d b) (hfr : A.frames = some stack) (hm : env ∈ stack) (hl : ∀ x ∈ stack, FrameOk s.heap x)
    (h : ∀ h', Stands K h0 s.heap h' → Flying K h0 h' e c d true → (∀ x ∈ stack, FrameOk h' x) → Q () { s with heap := h' }) : wpAny M A (noteFrame (.ref e) env) Q E s := by
  obtain ⟨_, L, _, hf, _, _⟩ := hl env hm
  obtain ⟨o, vs, g, hc, hd, hsz, h2, hcase⟩ := F.dat
  unfold noteFrame
  simp only [hf]
  rcases hcase with ⟨_, h1⟩ | ⟨t, ot, tv, h1, gt, htc, htd, h4, hn, hte⟩
  · refine wpAny_bind (wpAny_field g hd h1 ?_)
    rw [if_neg (by decide)]
    exact note_tail F.new F.inst F.dic ⟨o, vs, g, hc, hd, hsz, h2⟩ F.dom hfr hm hl hf h
  · refine wpAny_bind (wpAny_field g hd h1 ?_)
    rw [if_pos (by simp)]
    obtain ⟨x3, hx3⟩ : ∃ x, tv[3]? = some x := ⟨tv[3], Array.getElem?_eq_getElem (by omega)⟩
    refine wpAny_bind (wpAny_field gt htd hx3 ?_)
    by_cases q : (x3 == rawInt L) = true
    · rw [if_pos q]
      exact wpAny_pure (h s.heap (Stands.refl _ _ _) ⟨F.dom, F.new, F.inst, F.dic, o, vs, g, hc, hd, hsz, h2, .inr ⟨t, ot, tv, h1, gt, htc, htd, h4, hn, hte⟩⟩ hl)
    · rw [if_neg q]
      refine wpAny_bind (tb_set F g hd h1 gt htc htd (by omega) h4 hn hte hl fun h' st F' hl' ge => ?_)
      exact note_tail (s := { s with heap := h' }) F'.new F'.inst F'.dic ⟨o, vs, ge, hc, hd, hsz, h2⟩ F'.dom hfr hm hl' hf fun h'' st' F'' hl'' => h h'' (st.trans st') F'' hl''
theorem flight_ok {fr : Option Addr} {Q : Unit → Shared → Prop} (F : Flying K h0 s.heap e c d true) (hl : ∀ x ∈ stack, FrameOk s.heap x)
    (h : ∀ h', Stands K h0 s.heap h' → Flying K h0 h' e c d true → (∀ x ∈ stack, FrameOk h' x) → Q () { s with heap := h' }) : wpAny M A (setFlight (.ref e) fr) Q E s := by
  obtain ⟨o, vs, g, hc, hd, hsz, h2, hcase⟩ := F.dat
  rcases hcase with ⟨q, _⟩ | ⟨t, ot, tv, h1, gt, htc, htd, h4, hn, hte⟩
  · cases q
  · unfold setFlight
    refine wpAny_bind (wpAny_field g hd h1 ?_)
    rw [if_pos (by simp)]
    exact tb_set F g hd h1 gt htc htd (by omega) h4 hn hte hl fun h' st F' hl' ge => h h' st F' hl'
theorem leaving_ok {b : Bool} {Q : Unit → Shared → Prop} (F : Flying K h0 s.heap e c d b) (hfr : A.frames = some stack) (hm : env ∈ stack) (hl : ∀ x ∈ stack, FrameOk s.heap x)
    (h : ∀ h', Stands K h0 s.heap h' → Flying K h0 h' e c d true → (∀ x ∈ stack, FrameOk h' x) → Q () { s with heap := h' }) : wpAny M A (leaving env (.ref e)) Q E s := by
  unfold leaving
  refine wpAny_bind (note_ok F hfr hm hl fun h' st F' hl' => ?_)
  exact flight_ok (s := { s with heap := h' }) F' hl' fun h'' st' F'' hl'' => h h'' (st.trans st') F'' hl''
theorem back_ok {Q : Unit → Shared → Prop} (F : Flying K h0 s.heap e c d true) (hl : ∀ x ∈ stack, FrameOk s.heap x)
    (h : ∀ h', Stands K h0 s.heap h' → Flying K h0 h' e c d true → (∀ x ∈ stack, FrameOk h' x) → Q () { s with heap := h' }) : wpAny M A (do
      if (← field (.ref e) 1) == .none then unsupported "frame.own-activation:exception-without-traceback"
      setFlight (.ref e) env.frame : Sem Unit) Q E s := by
  obtain ⟨o, vs, g, hc, hd, hsz, h2, hcase⟩ := F.dat
  rcases hcase with ⟨q, _⟩ | ⟨t, ot, tv, h1, gt, htc, htd, h4, hn, hte⟩
  · cases q
  · refine wpAny_bind (wpAny_field g hd h1 ?_)
    rw [if_neg (by simp)]
    first
      | exact flight_ok F hl h
      | exact wpAny_bind (wpAny_pure (flight_ok F hl h))
end
end Mine
end
section
open PySem PySem.W PyProof.Rows PySem.SeqAt
open Builtin Builtin.ObjectAttr
set_option maxRecDepth 100000
set_option autoImplicit false
set_option linter.unusedVariables false
namespace Mine
/-- how a raise leaves a loop -/
abbrev noteH (env : Env) (x : Value) : Sem Fin := (do noteFrame x env; theTreesLotGoes x : Sem Unit).wrap (fun _ => .raise x) .raise id id
/-- how a frame gets what its own loop gives -/
abbrev ownK (env : Env) (K : Flow → Sem Fin) (H : Value → Sem Fin) (gd : Bool → Bool) (lv : List Value → List Value) (r : Result) : Sem Fin :=
  ((match r with | .ok f => (.pure f : Sem Flow) | .error e => .raise e).onRaise fun (x : Value) => do
    if (← field x 1) == Value.none then unsupported "frame.own-activation:exception-without-traceback"
    setFlight x env.frame).wrap K H gd lv
section
variable {M : Model} {A : Around} {R : GenEnd} {Y : Protocol} {n : Nat} {s₀ : Shared} {c : Code} {fs : List Frame} {s : Shared} {env : Env}
  {K : Flow → Sem Fin} {H : Value → Sem Fin} {gd : Bool → Bool} {lv : List Value → List Value}
theorem exec_For2 (target iter : Expr) (body orelse : List Stmt) (pos : Pos) : exec (.For target iter body orelse pos) env = ((do
    standAt pos
    let x ← foldedSetIterable iter env (← eval iter env)
    standAt iter.pos
    holding [x] (pyIter x) : Sem Value) >>= fun it => runOwn (.forLoop target it body orelse env) env) := by
  rw [exec_For]
  simp only [bind_assoc]
theorem seg_For {target iter : Expr} {body orelse : List Stmt} {pos : Pos} (hs : ∀ x, foldedSetIterable iter env x = pure x)
    (h : wpAny M (A.over c fs) (eval iter env) (fun x s₁ => wpAny M (A.over c fs) (pyIter x) (fun it s₂ => ∀ p, Seg M A R Y n s₀ (.forLoop target it body orelse env) (M.den (.forLoop target it body orelse env))
      (.ret (ownK env K H gd lv) none (gd false) (lv []) c p [] :: fs) s₂) (fun x s' => Seg M A R Y n s₀ c (H x) fs s') s₁) (fun x s' => Seg M A R Y n s₀ c (H x) fs s') s) :
    Seg M A R Y n s₀ c ((exec (.For target iter body orelse pos) env).wrap K H gd lv) fs s := by
  rw [exec_For2, Sem.bind_eq_wrap', Sem.wrap_wrap]
  refine seg_wrap ?_
  exact wpAny_bind (wpAny_standAt (wpAny_bind (wpAny_mono h (fun x s₁ h₁ => wpAny_bind (wpAny_of_eq (hs x) (wpAny_bind (wpAny_standAt (wpAny_holding
    (wpAny_mono h₁ (fun it s₂ h₂ => seg_call h₂) fun _ _ h' => h')))))) fun _ _ h' => h')))
theorem seg_raise {H' : Value → Sem Fin} {x : Value} (h : Seg M A R Y n s₀ c (H x) fs s) : Seg M A R Y n s₀ c ((Sem.raise x : Sem Flow).wrap K H gd lv) fs s := h
end
section
variable {prog : Program} {w : World} {A : Around} {R : GenEnd} {Y : Protocol} {n : Nat} {s₀ : Shared} {fs : List Frame} {s : Shared} {env : Env}
  {K : Flow → Sem Fin} {H : Value → Sem Fin} {gd : Bool → Bool} {lv : List Value → List Value}
theorem seg_forLoop {target : Expr} {it : Value} {body orelse : List Stmt}
    (h : wpAny (model prog w) (A.over (.forLoop target it body orelse env) fs) (pyNext it) (fun r s' => match r with
        | none => Seg (model prog w) A R Y n s₀ (.forLoop target it body orelse env) (.pure (.again (.block orelse env))) fs s'
        | some v => wpAny (model prog w) (A.over (.forLoop target it body orelse env) fs) (letOwnedTupleGo target it v) (fun _ s₁ =>
            wpAny (model prog w) (A.over (.forLoop target it body orelse env) fs) (assign target env v) (fun _ s₂ =>
              Seg (model prog w) A R Y n s₀ (.forLoop target it body orelse env) ((execs body env).wrap (fun f => match f with
                | .next | .cont => .pure (.again (.forLoop target it body orelse env))
                | .brk => .pure (.done .next)
                | .ret v => .pure (.done (.ret v))) (noteH env) id id) fs s₂)
              (fun x s' => Seg (model prog w) A R Y n s₀ (.forLoop target it body orelse env) (noteH env x) fs s') s₁)
            (fun x s' => Seg (model prog w) A R Y n s₀ (.forLoop target it body orelse env) (noteH env x) fs s') s')
      (fun x s' => Seg (model prog w) A R Y n s₀ (.forLoop target it body orelse env) (noteH env x) fs s') s) :
    Seg (model prog w) A R Y n s₀ (.forLoop target it body orelse env) ((model prog w).den (.forLoop target it body orelse env)) fs s := by
  have hn : (fun e : Value => (do noteFrame e env; theTreesLotGoes e : Sem Unit).bind fun _ => (.raise e : Sem Fin)) = noteH env := by
    funext e; exact Sem.bind_eq_wrap _ _
  show Seg _ A R Y n s₀ _ ((forTurn target it body orelse env).onRaise (fun x => do noteFrame x env; theTreesLotGoes x)) fs s
  rw [Sem.onRaise_eq_wrap, hn]
  unfold forTurn
  rw [Sem.bind_eq_wrap', Sem.wrap_wrap]
  refine seg_wrap (wpAny_standAt ?_)
  rw [Sem.bind_eq_wrap', Sem.wrap_wrap]
  refine seg_wrap (wpAny_onRaise (wpAny_mono h (fun r s' hr => ?_) fun x s' hx => wpAny_standAt hx))
  cases r with
  | none => exact hr
  | some v =>
    show Seg _ A R Y n s₀ _ (Sem.wrap _ _ _ _ (letOwnedTupleGo target it v >>= _)) fs s'
    rw [Sem.bind_eq_wrap', Sem.wrap_wrap]
    refine seg_wrap (wpAny_mono hr (fun _ s₁ h₁ => ?_) fun x s₁ hx => hx)
    show Seg _ A R Y n s₀ _ (Sem.wrap _ _ _ _ (assign target env v >>= _)) fs s₁
    rw [Sem.bind_eq_wrap', Sem.wrap_wrap]
    refine seg_wrap (wpAny_mono h₁ (fun _ s₂ h₂ => ?_) fun x s₂ hx => hx)
    show Seg _ A R Y n s₀ _ (Sem.wrap _ _ _ _ (execs body env >>= _)) fs s₂
    rw [Sem.bind_eq_wrap', Sem.wrap_wrap]
    refine cast (congrArg (fun t => Seg _ A R Y n s₀ _ t fs s₂) (Sem.wrap_congr (execs body env) _ _ (fun f => ?_) (fun e => rfl)).symm) h₂
    cases f <;> rfl
/-- the loop's own end, nothing after it -/
theorem seg_block_nil {c : Code} {k : Result → Sem Fin} {h g l p kp} (hk : Seg (model prog w) A R Y n s₀ c (k (.ok .next)) fs s) {c' : Code} :
    Seg (model prog w) A R Y n s₀ c' (.pure (.again (.block [] env))) (.ret k h g l c p kp :: fs) s :=
  seg_again (by first | rfl | decide +kernel | (simp [Code.quiet, Thread.loud, Thread.atCollectorCode, Thread.yieldsInsideHandler])) (seg_leaf (.ok .next) hk)
end
end Mine
end
section
open PySem PySem.W PyProof.Rows PySem.SeqAt
open Builtin Builtin.ObjectAttr
set_option maxRecDepth 100000
set_option autoImplicit false
set_option linter.unusedVariables false
namespace Mine
theorem entry_yf : entryFor table "proto.yield_from" = some Builtin.«proto.yield_from» := entryFor_of_tree (by kernel_rfl)
theorem lk_listiter_close : typeLookup (.type "list_iterator") "close" = pure none := by rw [typeLookup_type, builtinLookup_eq_fast]; kernel_rfl
theorem entry_list_next : True := trivial
theorem den_builtin {prog : Program} {w : World} {id : String} {args : Args} {b : Builtin} (h : entryFor table id = some b) : (model prog w).den (.builtin id args) = b args := by
  have : (model prog w).den (.builtin id args) = (match entryFor table id with
    | some b => b args
    | none => unsupported ((withoutEnding? id "#data").getD id)) := rfl
  rw [this, h]
section
variable {prog : Program} {w : World} {A : Around} {E : Value → Shared → Prop} {s : Shared}
theorem special_list_item {it l : Addr} {i : Nat} {items : Array Value} {x : Value} {Q : Option Value → Shared → Prop} (hit : s.heap.IsListIter it l i)
    (hl : s.heap.IsList l items) (hx : items[i]? = some x)
    (hQ : ∀ h', h'.IsListIter it l (i + 1) → Heap.SameBut it s.heap h' → Q (some x) { s with heap := h' }) :
    wpAny (model prog w) A (callSpecial? (.ref it) "__next__") Q E s := by
  obtain ⟨o, ho, hc, hd⟩ := id hit
  obtain ⟨ol, hol, _, nl, hdl⟩ := hl
  refine (wpAny_callSpecial?_slot (name := Str.ofString "__next__") hit.typeIs slot_listiter_next
    (wpAny_call_entry slot_listiter_next hit.typeIs entry_listiter_next ?_ (args_listiter_next _)))
  show wpAny _ _ (field (.ref it) 0 >>= _) _ _ s
  refine wpAny_bind (wpAny_field ho hd (x := .ref l) rfl ?_)
  show wpAny _ _ (if (Value.ref l == Value.none) = true then _ else _) _ _ s
  rw [if_neg (show ¬ ((Value.ref l == Value.none) = true) from Bool.false_ne_true)]
  show wpAny _ _ (field (.ref it) 1 >>= _) _ _ s
  refine wpAny_bind (wpAny_field ho hd (x := .int i 0) rfl ?_)
  show wpAny _ _ (seqItems? (.ref l) >>= _) _ _ s
  refine wpAny_bind (wpAny_seqItems hol hdl ?_)
  simp only [Int.toNat_natCast, hx]
  refine wpAny_bind (wpAny_setField ho hd (by simp) (wpAny_pure ⟨x, rfl, hQ _ ?_ (Heap.SameBut.update ..)⟩))
  exact ⟨_, Heap.get?_update_self _ ho (Obj.isFreed_of_fields (Obj.data_mapFields hd _)), (Obj.cls_mapFields ..).trans hc, by
    rw [Obj.data_mapFields hd]; simp [rawInt]⟩
theorem special_list_end {it l : Addr} {i : Nat} {items : Array Value} {Q : Option Value → Shared → Prop} (hh : A.handled = none)
    (hit : s.heap.IsListIter it l i) (hl : s.heap.IsList l items) (hx : items[i]? = none)
    (hE : ∀ h' e a, Heap.ExtBut it s.heap h' → h'.get? e = some { cls := .type "StopIteration", data := .fields #[.ref a, .none, .none, .none, .bool false, .none] } → E (.ref e) { s with heap := h' }) : wpAny (model prog w) A (callSpecial? (.ref it) "__next__") Q E s := by
  obtain ⟨o, ho, hc, hd⟩ := id hit
  obtain ⟨ol, hol, _, nl, hdl⟩ := hl
  refine (wpAny_callSpecial?_slot (name := Str.ofString "__next__") hit.typeIs slot_listiter_next
    (wpAny_call_entry slot_listiter_next hit.typeIs entry_listiter_next ?_ (args_listiter_next _)))
  show wpAny _ _ (field (.ref it) 0 >>= _) _ _ s
  refine wpAny_bind (wpAny_field ho hd (x := .ref l) rfl ?_)
  show wpAny _ _ (if (Value.ref l == Value.none) = true then _ else _) _ _ s
  rw [if_neg (show ¬ ((Value.ref l == Value.none) = true) from Bool.false_ne_true)]
  show wpAny _ _ (field (.ref it) 1 >>= _) _ _ s
  refine wpAny_bind (wpAny_field ho hd (x := .int i 0) rfl ?_)
  show wpAny _ _ (seqItems? (.ref l) >>= _) _ _ s
  refine wpAny_bind (wpAny_seqItems hol hdl ?_)
  simp only [Int.toNat_natCast, hx]
  refine wpAny_bind (wpAny_rule (wpAny_bind (wpAny_setField ho hd (by simp) ?_)))
  show wpAny _ _ (newExc (.type "StopIteration") [] >>= _) _ _ _
  refine wpAny_bind ?_
  simp only [newExc, newTuple]
  refine wpAny_bind (wpAny_newObj_type ?_ (by size_fits))
  refine wpAny_bind (m := firstArgMember _ _) (wpAny_of_eq (a := Value.none) (by first | rfl | (simp only [firstArgMember]; rfl)) ?_)
  refine wpAny_newObj_type ?_ (by size_fits)
  simp only [raiseNew]
  refine wpAny_bind (wpAny_handled ?_)
  rw [show A.in1.handled = none from hh]
  refine wpAny_bind (wpAny_pure (wpAny_throw ?_))
  exact hE _ _ _ (((Heap.SameBut.update ..).extBut.push _).push _) (Heap.get?_push_size _ rfl)
theorem slept_no {I : Addr} {o : Obj} {b : Bool} {Q : Unit → Shared → Prop} (ho : s.heap.get? I = some o) (hc : o.cls = .type "list_iterator") (h : Q () s) : wpAny (model prog w) A (Generator.sleptOver (.ref I) b) Q E s := by
  unfold Generator.sleptOver
  refine wpAny_bind (wpAny_load ho ?_)
  rw [hc, if_pos (by decide)]
  exact wpAny_pure h
abbrev yfCode (I : Addr) : Code := .builtin "proto.yield_from" ⟨[.ref I, .bool false, .none], []⟩
variable {R : GenEnd} {Y : Protocol} {n : Nat} {s₀ : Shared} {fs : List Frame}
theorem seg_yf_item {I l : Addr} {i : Nat} {items : Array Value} {x : Value} (hit : s.heap.IsListIter I l i) (hl : s.heap.IsList l items) (hx : items[i]? = some x) (hfs : splitAtGen fs = none) (hfg : fs.any Frame.guarded = false)
    (h : ∀ h', h'.IsListIter I l (i + 1) → Heap.SameBut I s.heap h' → ∀ kap : Resume → Shared → Prop,
      (∀ s'', (∃ o, s''.heap.get? I = some o ∧ o.cls = .type "list_iterator") → Seg (model prog w) A R Y n s'' (yfCode I) ((model prog w).den (yfCode I)) fs s'' → kap (.send .none) s'') → Y n s₀ x { s with heap := h' } kap) :
    Seg (model prog w) A R Y (n + 1) s₀ (yfCode I) ((model prog w).den (yfCode I)) fs s := by
  rw [den_builtin entry_yf]
  unfold Builtin.«proto.yield_from»
  refine seg_bind (wpAny_pure ?_)
  refine seg_bind (wpAny_attempt (wpAny_holding ?_))
  rw [if_neg (by decide), if_pos (by rfl)]
  refine wpAny_bind (wpAny_rule (wpAny_bind ?_))
  refine special_list_item hit hl hx fun h' hit' hs' => ?_
  refine wpAny_pure ?_
  obtain ⟨o', ho', hc', hd'⟩ := id hit'
  refine seg_bind (wpAny_typeOf (v := .ref I) (T := "list_iterator") ⟨o', ho', hc'⟩ ?_)
  refine seg_bind (m := typeLookup (.type "list_iterator") "close") (wpAny_of_eq lk_listiter_close ?_)
  refine seg_bind (wpAny_pure ?_)
  refine seg_bind (slept_no ho' hc' ?_)
  refine seg_yield hfs rfl hfg ?_
  refine h h' hit' hs' _ fun s'' ⟨o2, ho2, hc2⟩ hseg => ?_
  refine seg_bind (wpAny_pure (seg_bind (slept_no ho2 hc2 ?_)))
  refine seg_bind (wpAny_pure ?_)
  exact seg_again (Code.quiet_builtin _ (by decide +kernel)) hseg
theorem seg_yf_end {I l : Addr} {i : Nat} {items : Array Value} {c : Code} {k : Result → Sem Fin} {h g lv p kp} (hh : (A.over (yfCode I) (.ret k h g lv c p kp :: fs)).handled = none) (hit : s.heap.IsListIter I l i) (hl : s.heap.IsList l items) (hx : items[i]? = none)
    (hK : ∀ h', Heap.ExtBut I s.heap h' → Seg (model prog w) A R Y n s₀ c (k (.ok (.ret .none))) fs { s with heap := h' }) :
    Seg (model prog w) A R Y n s₀ (yfCode I) ((model prog w).den (yfCode I)) (.ret k h g lv c p kp :: fs) s := by
  rw [den_builtin entry_yf]
  unfold Builtin.«proto.yield_from»
  refine seg_bind (wpAny_pure ?_)
  refine seg_bind (wpAny_attempt (wpAny_holding ?_))
  rw [if_neg (by decide), if_pos (by rfl)]
  refine wpAny_bind (wpAny_rule (wpAny_bind ?_))
  refine special_list_end hh hit hl hx fun h' e a hx' he => ?_
  refine seg_bind ?_
  unfold Generator.endsTheTurnAsAValue Generator.isStopAndMetaclass
  refine wpAny_bind (wpAny_bind (wpAny_typeOf (T := "StopIteration") ⟨_, he, rfl⟩ ?_))
  refine wpAny_bind (wpAny_of_eq isSubtype_stop ?_)
  refine wpAny_bind (wpAny_of_eq (a := .type "type") (by first | rfl | (simp [typeOf]; rfl)) (wpAny_pure ?_))
  refine wpAny_pure ?_
  rw [if_pos rfl]
  refine seg_bind (wpAny_rule ?_)
  refine seg_bind (wpAny_field he rfl (x := .none) rfl ?_)
  exact seg_leaf (.ok (.ret .none)) (hK h' hx')
theorem seg_Expr_YieldFrom {e : Expr} {ypos pos : Pos} {env : Env} {c : Code} {K : Flow → Sem Fin} {H : Value → Sem Fin} {gd : Bool → Bool} {lv : List Value → List Value}
    (h : wpAny (model prog w) (A.over c fs) (eval e env) (fun v s₁ => s₁.TypeIs v "list" ∧ wpAny (model prog w) (A.over c fs) (pyIter v) (fun it s₂ => ∃ I, it = .ref I ∧ ∀ k p, k (.ok (.ret .none)) = K .next → Seg (model prog w) A R Y n s₀ (yfCode I) ((model prog w).den (yfCode I))
        (.ret k none (gd false) (lv []) c p [] :: fs) s₂) (fun x s' => Seg (model prog w) A R Y n s₀ c (H x) fs s') s₁)
      (fun x s' => Seg (model prog w) A R Y n s₀ c (H x) fs s') s) (hi : interactive env = false := by rfl) :
    Seg (model prog w) A R Y n s₀ c ((exec (.Expr (.YieldFrom e ypos) pos) env).wrap K H gd lv) fs s := by
  rw [exec_Expr env _ pos hi rfl]
  show Seg _ A R Y n s₀ c (.at pos fun _ => ((eval e env >>= fun v => (standAt ypos >>= fun _ => yieldFrom env v)) >>= fun x =>
    dropValue (.YieldFrom e ypos) pos x).wrap K H gd lv) fs s
  refine seg_at ?_
  rw [Sem.bind_eq_wrap', Sem.bind_eq_wrap', Sem.wrap_wrap, Sem.wrap_wrap]
  refine seg_wrap (wpAny_mono h (fun v s₁ ⟨hv, h₁⟩ => ?_) fun _ _ x => x)
  refine seg_at ?_
  unfold yieldFrom
  show Seg _ A R Y n s₀ c (Sem.wrap _ _ _ _ (typeOf v >>= _)) fs s₁
  rw [Sem.bind_eq_wrap', Sem.wrap_wrap]
  refine seg_wrap (wpAny_typeOf hv ?_)
  rw [if_neg (by decide)]
  rw [Sem.bind_eq_wrap', Sem.wrap_wrap]
  refine seg_wrap (wpAny_holding (wpAny_mono h₁ (fun it s₂ ⟨I, hI, h₂⟩ => ?_) fun _ _ x => x))
  subst hI
  exact seg_call fun p => h₂ _ p rfl
end
end Mine
end
section
open PySem PySem.W PyProof.Rows PySem.SeqAt
open Builtin Builtin.ObjectAttr
set_option maxRecDepth 100000
set_option autoImplicit false
set_option linter.unusedVariables false
namespace Mine
section
variable {prog : Program} {w : World} {A : Around} {E : Value → Shared → Prop} {s : Shared}
/-- a look at a generator: an item, the end, or an exception of its own -/
theorem gen_next {K : ExcK} {a : Addr} {g n : Nat} {gs : GenState} {R : GenEnd} {Y : Protocol} {Q : Option Value → Shared → Prop} (hh : A.handled = none)
    (hl : s.heap.NoLimit) (hroom : A.depth < recursionLimit)
    (hg : s.heap.IsGen a g) (hgs : s.gens[g]? = some gs)
    (hgo : gs.Goes (model prog w) A.in1 R Y n (.send .none) (s.setGen g .running))
    (hY : ∀ v s₁ gs', gs'.bare = true → Y (n - 1) (s.setGen g .running) v s₁ (fun r' s'' => match n with
        | 0 => False
        | m + 1 => gs'.Goes (model prog w) A.in1 R Y m r' s'') → Q (some v) (s₁.setGen g gs'))
    (hR : ∀ r s₁, R n (s.setGen g .running) r s₁ →
      (r = .ok (.ret .none) ∧ ∀ h', Ext s₁.heap h' → Q none { s₁.setGen g .finished with heap := h' }) ∨
      (∃ e o, r = .error (.ref e) ∧ s₁.heap.IsGen a g ∧ ExcIn K s₁.heap ∧ s₁.heap.get? e = some o ∧ o.cls = .ref K.C ∧ E (.ref e) (s₁.setGen g .finished))) :
    wpAny (model prog w) A (pyNext (.ref a)) Q E s := by
  unfold pyNext
  refine wpAny_bind (wpAny_attempt (wpAny_callSpecial?_slot (name := Str.ofString "__next__") hg.typeIs slot_gen_next
    (wpAny_call_entry slot_gen_next hg.typeIs entry_gen_next ?_ (args_gen_next _))))
  show wpAny _ A.in1 (Builtin.Generator.genWake (.ref a) (.send .none)) _ _ s
  unfold Builtin.Generator.genWake
  refine wpAny_bind (wpAny_holding (wpAny_genNumber hg (wpAny_bind (wpAny_genState hgs ?_))))
  have hnS : (Value.ref K.C :: excBm).contains (.type "StopIteration") = false := by rw [List.contains_cons, show excBm.contains (.type "StopIteration") = false from by decide, Bool.or_false]; rfl
  cases gs with
  | running => exact hgo.elim
  | finished => exact hgo.elim
  | _ =>
    refine wpAny_bind (wpAny_roomToWake hl hroom ?_)
    show wpAny _ A.in1 (.resume g (.send .none) [] _) _ _ s
    refine wpAny_resumeQ hgs hgo (fun x s₁ hx => ?_) (fun v s₁ gs' hb hv => ?_)
    · rcases hR _ _ hx with ⟨rfl, hp⟩ | ⟨e, o, rfl, hg₁, X, he, hc, hE⟩
      · show wpAny _ A.in1 (newExc (.type "StopIteration") [] >>= _) _ _ _
        refine wpAny_bind ?_
        simp only [newExc, newTuple]
        refine wpAny_bind (wpAny_newObj_type ?_ (by size_fits))
        refine wpAny_bind (m := firstArgMember _ _) (wpAny_of_eq (a := Value.none) (by first | rfl | (simp only [firstArgMember]; rfl)) ?_)
        refine wpAny_newObj_type ?_ (by size_fits)
        simp only [raiseNew]
        refine wpAny_bind (wpAny_bind (wpAny_handled ?_))
        first | rw [show A.in1.handled = none from hh] | rw [hh]
        refine wpAny_throw ?_
        refine wpAny_bind (wpAny_isInstance (T := "StopIteration") (b := true) ⟨_, Heap.get?_push_size _ rfl, rfl⟩ isSubtype_stop ?_)
        exact wpAny_pure (hp _ fun b o hb => Heap.get?_push_of_some _ (Heap.get?_push_of_some _ hb))
      · obtain ⟨og, nm, qn, hog, hcg, hdg, hsg⟩ := hg₁
        have hX := X.cls
        have ins : ∀ (A' : Around) (Q' : Bool → Shared → Prop) (E' : Value → Shared → Prop), Q' false (s₁.setGen g .finished) → wpAny (model prog w) A' (isInstance (.ref e) (.type "StopIteration")) Q' E' (s₁.setGen g .finished) := fun A' Q' E' h => by
          unfold isInstance
          refine wpAny_bind (wpAny_typeOf_ref (o := o) he ?_)
          rw [hc]
          refine wpAny_isSubtype_exc hX ?_
          rw [hnS]; exact h
        show wpAny _ A.in1 (Builtin.Generator.genLeft (.ref a) (.ref e)) _ _ _
        unfold Builtin.Generator.genLeft Builtin.Generator.madeByALambda
        refine wpAny_bind (wpAny_bind (wpAny_load hog (wpAny_pure ?_)))
        rw [hcg, hdg]
        refine wpAny_bind (ins _ _ _ ?_)
        rw [Bool.and_false, if_neg (by decide)]
        show wpAny _ A.in1 (Builtin.Generator.genEscaped (.ref e)) _ _ _
        unfold Builtin.Generator.genEscaped
        refine wpAny_bind (ins _ _ _ ?_)
        rw [if_pos (by rfl)]
        refine wpAny_throw ?_
        refine wpAny_bind (ins _ _ _ ?_)
        rw [if_neg (by decide)]
        exact wpAny_throw hE
    · exact wpAny_pure ⟨v, rfl, wpAny_pure (hY v s₁ gs' hb hv)⟩
end
end Mine
end
section
open PySem PySem.W PyProof.Rows PySem.SeqAt
set_option maxRecDepth 10000
set_option autoImplicit false
set_option linter.unusedVariables false
namespace Mine
/-- what must come ahead of x -/
abbrev par (ps : List (Int × Int)) : Int → List Int := succOf (ps.map Prod.swap)
theorem mem_par {ps : List (Int × Int)} {x y : Int} : y ∈ par ps x ↔ (y, x) ∈ ps := by
  rw [mem_succ, List.mem_map]
  constructor
  · rintro ⟨⟨a, b⟩, h, e⟩; cases e; exact h
  · intro h; exact ⟨_, h, rfl⟩
/-- nothing of td must come ahead of x -/
def freeB (ps : List (Int × Int)) (td : List Int) (x : Int) : Bool := decide (∀ y ∈ td, y ∉ par ps x)
/-- what is laid next -/
def layerOf (ps : List (Int × Int)) (td : List Int) : List Int := td.filter (freeB ps td)
/-- what is left -/
def leftOf (ps : List (Int × Int)) (td : List Int) : List Int := td.filter fun x => !freeB ps td x
section
variable {C : Cx} {A : Around} {env : Env} {ρ : Loc} {H : AHeap} {s : Shared}
theorem SRep.weakSet {a : Addr} {S : List Int} (R : SRep C env ρ H s) (e : H a = some (.iset S)) : SRep C env ρ (H.upd a (.wset S)) s where
  keep := R.keep
  fr := R.fr
  sep := by rw [AHeap.upd_ne _ _ fun q => by have := R.sep; rw [q, e] at this; cases this]; exact R.sep
  hp := fun b o h => by
    unfold AHeap.upd at h
    split at h
    · rename_i q; subst q; cases h
      obtain ⟨⟨l, h1, h2⟩, h3⟩ := R.hp _ _ e
      exact ⟨⟨l, h1.weak, h2⟩, h3⟩
    · exact R.hp b o h
  gens := R.gens
  os := R.os
theorem TS_weakEnd {st : Stmt} {Q : AFlow → Loc → AHeap → Prop} (h : TS C st ρ H fun f ρ' H' => ∃ a S, H' a = some (.iset S) ∧ Q f ρ' (H'.upd a (.wset S))) : TS C st ρ H Q := fun A env s ok R =>
  (h A env s ok R).mono fun f s' ⟨af, ρ', H', h1, R', a, S, h2, h3⟩ => ⟨af, ρ', _, h1, R'.weakSet h2, h3⟩
/-- what stands ahead of each layer -/
structure G2I (ρ : Loc) (H : AHeap) (ps : List (Int × Int)) (its : List Int) (ta aa E T V : Addr) (es : List (Int × Addr)) (td S : List Int) : Prop where
  tup : ρ "tuples" = some (.ref ta)
  all : ρ "allitems" = some (.ref aa)
  e : ρ "edges" = some (.ref E)
  t : ρ "todo" = some (.ref T)
  w : ρ "todo_set" = some (.ref V)
  hta : H ta = some (.ro (ps.map .pair))
  haa : H aa = some (.ro (its.map .int))
  D : DDOk H E es (par ps)
  keys : ∀ x ∈ es.map (·.1), 0 ≤ x ∧ x < 5
  ht : H T = some (.list (td.map .int))
  hw : H V = some (.wset S)
  perm : S.Perm td
  low : ∀ x ∈ td, 0 ≤ x ∧ x < 5
  nod : td.Nodup
variable {ps : List (Int × Int)} {its : List Int} {ta aa E T V : Addr} {es : List (Int × Addr)} {td S : List Int}
theorem G2I.change {a : Addr} {o : AObj} (c : G2I ρ H ps its ta aa E T V es td S) (h : H a = none ∨ (a ≠ T ∧ ∃ xs, H a = some (.list xs))) : G2I ρ (H.upd a o) ps its ta aa E T V es td S where
  tup := c.tup
  all := c.all
  e := c.e
  t := c.t
  w := c.w
  hta := by rw [AHeap.upd_ne _ _ fun q => by subst q; rw [c.hta] at h; rcases h with h | ⟨_, _, h⟩ <;> cases h]; exact c.hta
  haa := by rw [AHeap.upd_ne _ _ fun q => by subst q; rw [c.haa] at h; rcases h with h | ⟨_, _, h⟩ <;> cases h]; exact c.haa
  D := ⟨by rw [AHeap.upd_ne _ _ fun q => by subst q; rw [c.D.at_] at h; rcases h with h | ⟨_, _, h⟩ <;> cases h]; exact c.D.at_, c.D.keysN, c.D.addrN,
    fun p hp => by rw [AHeap.upd_ne _ _ fun q => by have h2 := c.D.sets p hp; rw [q] at h2; rw [h2] at h; rcases h with h | ⟨_, _, h⟩ <;> cases h]; exact c.D.sets p hp, c.D.off⟩
  keys := c.keys
  ht := by rw [AHeap.upd_ne _ _ fun q => by subst q; rw [c.ht] at h; rcases h with h | ⟨h, _⟩; cases h; exact h rfl]; exact c.ht
  hw := by rw [AHeap.upd_ne _ _ fun q => by subst q; rw [c.hw] at h; rcases h with h | ⟨_, _, h⟩ <;> cases h]; exact c.hw
  perm := c.perm
  low := c.low
  nod := c.nod
theorem G2I.loc {x : Str} {v : AV} (c : G2I ρ H ps its ta aa E T V es td S) (h1 : "tuples" ≠ x) (h2 : "allitems" ≠ x) (h3 : "edges" ≠ x) (h4 : "todo" ≠ x) (h5 : "todo_set" ≠ x) : G2I (ρ.upd x v) H ps its ta aa E T V es td S :=
  { c with tup := (Loc.upd_ne _ _ h1).trans c.tup, all := (Loc.upd_ne _ _ h2).trans c.all, e := (Loc.upd_ne _ _ h3).trans c.e, t := (Loc.upd_ne _ _ h4).trans c.t, w := (Loc.upd_ne _ _ h5).trans c.w }
theorem G2I.look {es' : List (Int × Addr)} {H' : AHeap} {x : Int} {b : Addr} (c : G2I ρ H ps its ta aa E T V es td S) (d : DDOk H' E es' (par ps)) (he : es' = es ∨ (x ∉ es.map (·.1) ∧ es' = es ++ [(x, b)])) (hx : 0 ≤ x ∧ x < 5) (hf : ∀ a, a ≠ E → H a ≠ none → H' a = H a) : G2I ρ H' ps its ta aa E T V es' td S where
  tup := c.tup
  all := c.all
  e := c.e
  t := c.t
  w := c.w
  hta := (hf _ (fun q => by have := c.hta; rw [q, c.D.at_] at this; cases this) (by rw [c.hta]; exact fun w => nomatch w)).trans c.hta
  haa := (hf _ (fun q => by have := c.haa; rw [q, c.D.at_] at this; cases this) (by rw [c.haa]; exact fun w => nomatch w)).trans c.haa
  D := d
  keys := fun y hy => by
    rcases he with rfl | ⟨_, rfl⟩
    · exact c.keys y hy
    · rw [List.map_append, List.mem_append] at hy
      rcases hy with hy | hy
      · exact c.keys y hy
      · simp at hy; subst hy; exact hx
  ht := (hf _ (fun q => by have := c.ht; rw [q, c.D.at_] at this; cases this) (by rw [c.ht]; exact fun w => nomatch w)).trans c.ht
  hw := (hf _ (fun q => by have := c.hw; rw [q, c.D.at_] at this; cases this) (by rw [c.hw]; exact fun w => nomatch w)).trans c.hw
  perm := c.perm
  low := c.low
  nod := c.nod
theorem G2I.len (c : G2I ρ H ps its ta aa E T V es td S) : es.length ≤ 5 := by
  have := le5 c.D.keysN c.keys
  simpa using this
/-- ahead of the loop -/
theorem sub_prelude (fs : Fns C.G C.gb) (k : C.Ok) (hsc : C.sc = fnS 4) (hro : C.ro = false) (ht : ρ "tuples" = some (.ref ta)) (ha : ρ "allitems" = some (.ref aa)) (hT : H ta = some (.ro (ps.map .pair))) (hA : H aa = some (.ro (its.map .int))) (hlen : ps.length < 100)
    (hin : ∀ p ∈ ps, (0 ≤ p.1 ∧ p.1 < 5) ∧ 0 ≤ p.2 ∧ p.2 < 5) (hit : ∀ x ∈ its, 0 ≤ x ∧ x < 5) (hnd : its.Nodup) :
    TSs C ((fnB 4).take 4) ρ H fun f ρ' H' => f = .next ∧ ∃ E T V es S, G2I ρ' H' ps its ta aa E T V es its S := by
  have hsl : sizeLine = 2 ^ 24 := rfl
  have hl5 := le5 hnd hit
  refine TSs_cons (TS_assign (fun env => rfl) (st_of hsc hro rfl) (TE_call k (gl_of hsc rfl) fs.dd trivial (fun env => ⟨_, _, rfl, rfl⟩) (TEs_cons (fun env => rfl) (TE_global k (gl_of hsc rfl) fs.set (TEs_nil (TC_ddnew fun E hE => ?_))))))
  have htE : ta ≠ E := fun e => by rw [← e, hT] at hE; cases hE
  have haE : aa ≠ E := fun e => by rw [← e, hA] at hE; cases hE
  refine TSs_cons (TS_for (fun env x => rfl) (TE_name (ld_of hsc rfl) (v := .ref ta) (by exact ht) ⟨_, _, (iter_list (xs := ps.map .pair) (by unfold AHeap.items; rw [AHeap.upd_ne _ _ htE, hT]; rfl)).some, fun xs hx => ?_⟩))
  subst hx
  refine ⟨fun i ρ' H' => ρ' "edges" = some (.ref E) ∧ ρ' "tuples" = some (.ref ta) ∧ ρ' "allitems" = some (.ref aa) ∧ H' ta = some (.ro (ps.map .pair)) ∧ H' aa = some (.ro (its.map .int)) ∧ ∃ es, Built H' E ((ps.map Prod.swap).take i) es,
    ⟨rfl, by exact ht, by exact ha, by rw [AHeap.upd_ne _ _ htE]; exact hT, by rw [AHeap.upd_ne _ _ haE]; exact hA, [], Built.nil⟩, fun i ρ' H' h => by unfold AHeap.items; rw [h.2.2.2.1]; rfl, fun i ρ₂ H₂ v hv hI I ob => ?_, fun ρ₂ H₂ hI => ?_⟩
  · obtain ⟨q, hq, rfl⟩ := item_pair hv
    obtain ⟨g1, g3, g4, g2, g5, es, B⟩ := hI
    have hqm : q ∈ ps := List.mem_of_getElem? hq
    have hq' : (ps.map Prod.swap)[i]? = some q.swap := by rw [List.getElem?_map, hq]; rfl
    have htk : (ps.map Prod.swap).take (i + 1) = (ps.map Prod.swap).take i ++ [q.swap] := by rw [List.take_add_one, hq']; rfl
    have hil : i < ps.length := (List.getElem?_eq_some_iff.mp hq).1
    have hl := B.len
    rw [List.length_take] at hl
    refine TA_tuple (xs := ["parent", "child"]) (fun env => .name (.inr ⟨_, rfl⟩) (.name (.inr ⟨_, rfl⟩) .nil)) (fun env => rfl) (fun y hy => ?_) rfl rfl (fun env => rfl) ?_
    · rcases (by simpa using hy) with rfl | rfl
      · exact st_of hsc hro rfl
      · exact st_of hsc hro rfl
    have up : ∀ y : Str, y ≠ "parent" → y ≠ "child" → (((ρ₂.upd "parent" (.int q.1)).upd "child" (.int q.2)) y) = ρ₂ y := fun y h1 h2 => by rw [Loc.upd_ne _ _ h2, Loc.upd_ne _ _ h1]
    have rp : ((ρ₂.upd "parent" (.int q.1)).upd "child" (.int q.2)) "parent" = some (.int q.1) := by rw [Loc.upd_ne _ _ (by decide)]; exact Loc.upd_self _ _ _
    have r_e := (up "edges" (by decide) (by decide)).trans g1
    refine TSs_cons (TS_expr (fun env => rfl) (TE_meth (fun env => rfl) (fun env => rfl) rfl (fun env => .inr ⟨_, _, rfl, rfl⟩) (TE_ddidx (fun _ _ => rfl) (TE_name (ld_of hsc rfl) (v := .ref E) r_e (TE_name (ld_of hsc rfl) (v := .int q.2) rfl
      ⟨E, q.2, rfl, rfl, ⟨es, by unfold AHeap.ents; rw [B.ok.at_]; rfl⟩, T2_dd B.ok (by omega) fun b es' H' d hb he hfr => ⟨b, .iset (succOf ((ps.map Prod.swap).take i) q.2), _, rfl, d.sets _ hb, meth_sadd, TEs_cons (fun env => rfl) (TE_name (ld_of hsc rfl) (v := .int q.1) rp (TEs_nil (TC_sadd setKI (d.sets _ hb) ?_ (hin q hqm).1 ⟨.inl rfl, TSs_nil ⟨r_e, (up "tuples" (by decide) (by decide)).trans g3, (up "allitems" (by decide) (by decide)).trans g4, ?_, ?_, es', ?_⟩⟩)))⟩⟩)))))
    · have := le5 (succ_nodup (ps := (ps.map Prod.swap).take i) (k := q.2)) fun y hy => by
        obtain ⟨p, hp, e⟩ := List.mem_map.mp (List.mem_of_mem_take (mem_succ.mp hy))
        have := (hin p hp).1
        cases p; cases e; exact this
      show (succOf ((ps.map Prod.swap).take i) q.2).length < 12
      omega
    · have hbt : ta ≠ b := fun e => by
        have h1 := d.sets _ hb
        have h2 := hfr ta htE (by rw [g2]; exact fun w => nomatch w)
        rw [← show ta = b from e, h2, g2] at h1; cases h1
      rw [AHeap.upd_ne _ _ hbt, hfr ta htE (by rw [g2]; exact fun w => nomatch w)]; exact g2
    · have hbt : aa ≠ b := fun e => by
        have h1 := d.sets _ hb
        have h2 := hfr aa haE (by rw [g5]; exact fun w => nomatch w)
        rw [← show aa = b from e, h2, g5] at h1; cases h1
      rw [AHeap.upd_ne _ _ hbt, hfr aa haE (by rw [g5]; exact fun w => nomatch w)]; exact g5
    · rw [htk]; exact B.snoc (q := q.swap) d hb he
  obtain ⟨g1, g3, g4, g2, g5, es, B⟩ := hI
  rw [List.length_map, show (ps.map Prod.swap).take ps.length = ps.map Prod.swap from by rw [List.take_of_length_le]; simp] at B
  have hkeys : ∀ x ∈ es.map (·.1), 0 ≤ x ∧ x < 5 := fun x hx => by
    obtain ⟨p, hp, rfl⟩ := List.mem_map.mp ((B.keys x).mp hx)
    obtain ⟨q, hq, rfl⟩ := List.mem_map.mp hp
    exact (hin q hq).2
  refine TSs_nil (TSs_cons (TS_assign (fun env => rfl) (st_of hsc hro rfl) (TE_call k (gl_of hsc rfl) fs.list trivial (fun env => ⟨_, _, rfl, rfl⟩) (TEs_cons (fun env => rfl) (TE_name (ld_of hsc rfl) (v := .ref aa) (by exact g4) (TEs_nil (TC_list (xs := its.map .int) (by unfold AHeap.items; rw [g5]; rfl) (by simp; omega) fun T hTn => ?_)))))))
  have haT : aa ≠ T := fun e => by rw [← e, g5] at hTn; cases hTn
  have htT : ta ≠ T := fun e => by rw [← e, g2] at hTn; cases hTn
  have hET : E ≠ T := fun e => by rw [← e, B.ok.at_] at hTn; cases hTn
  refine TSs_cons (TS_weakEnd (TS_assign (fun env => rfl) (st_of hsc hro rfl) (TE_call k (gl_of hsc rfl) fs.set trivial (fun env => ⟨_, _, rfl, rfl⟩) (TEs_cons (fun env => rfl) (TE_name (ld_of hsc rfl) (v := .ref aa) (by exact g4) (TEs_nil (TC_set_list setKI (xs := its) (by unfold AHeap.items; rw [AHeap.upd_ne _ _ haT, g5]; rfl) hit (by omega) fun V hV => ⟨V, _, AHeap.upd_self _ _ _, ?_⟩)))))))
  have hTV : T ≠ V := fun e => by rw [← e, AHeap.upd_self] at hV; cases hV
  have nV : ∀ b o, H₂ b = some o → b ≠ T → b ≠ V := fun b o hb hT e => by rw [← e, AHeap.upd_ne _ _ hT, hb] at hV; cases hV
  have cold : ∀ b o, H₂ b = some o → (((H₂.upd T (.list (its.map .int))).upd V (.iset (its.foldl insI []))).upd V (.wset (its.foldl insI []))) b = some o := fun b o hb => by
    have hbT : b ≠ T := fun e => by rw [← e, hb] at hTn; cases hTn
    have hbV := nV b o hb hbT
    rw [AHeap.upd_ne _ _ hbV, AHeap.upd_ne _ _ hbV, AHeap.upd_ne _ _ hbT]; exact hb
  refine TSs_nil ⟨rfl, E, T, V, es, its.foldl insI [], by exact g3, by exact g4, by exact g1, rfl, rfl, cold _ _ g2, cold _ _ g5, ⟨cold _ _ B.ok.at_, B.ok.keysN, B.ok.addrN, fun p hp => cold _ _ (B.ok.sets p hp), B.ok.off⟩, hkeys, ?_, AHeap.upd_self _ _ _, ?_, hit, hnd⟩
  · rw [AHeap.upd_ne _ _ hTV, AHeap.upd_ne _ _ hTV, AHeap.upd_self]
  · rw [List.perm_ext_iff_of_nodup (insAll_nodup List.nodup_nil) hnd]
    intro x
    rw [mem_insAll]; simp
end
end Mine
end
section
open PySem PySem.W PyProof.Rows PySem.SeqAt
set_option maxRecDepth 10000
set_option autoImplicit false
set_option linter.unusedVariables false
namespace Mine
/-- the loop of sort_as_subsets -/
def subB : List Stmt := match (fnB 4)[(4 : Nat)]? with
  | some (.While _ b _ _) => b
  | _ => []
def subT : Expr := match (fnB 4)[(4 : Nat)]? with
  | some (.While t _ _ _) => t
  | _ => default
theorem mem_erases {L : List Int} : ∀ {S : List Int}, S.Nodup → (L.foldl List.erase S).Nodup ∧ ∀ x, x ∈ L.foldl List.erase S ↔ x ∈ S ∧ x ∉ L := by
  induction L with
  | nil => intro S h; exact ⟨h, fun x => by simp⟩
  | cons y L ih =>
    intro S h
    obtain ⟨h1, h2⟩ := ih (h.erase y)
    refine ⟨h1, fun x => ?_⟩
    rw [List.foldl_cons, h2, h.mem_erase_iff]
    simp only [List.mem_cons, not_or]
    constructor
    · rintro ⟨⟨a, b⟩, c⟩; exact ⟨b, a, c⟩
    · rintro ⟨b, a, c⟩; exact ⟨⟨a, b⟩, c⟩
section
variable {C : Cx} {A : Around} {env : Env} {ρ : Loc} {H : AHeap} {s : Shared}
variable {ps : List (Int × Int)} {its : List Int} {ta aa E T V : Addr} {es : List (Int × Addr)} {td S : List Int}
theorem sub_output (k : C.Ok) (hsc : C.sc = fnS 4) (hro : C.ro = false) (c : G2I ρ H ps its ta aa E T V es td S) :
    TSs C (subB.take 2) ρ H fun f ρ' H' => f = .next ∧ ∃ O es', G2I ρ' H' ps its ta aa E T V es' td S ∧ ρ' "output" = some (.ref O) ∧ H' O = some (.list ((layerOf ps td).map .int)) := by
  have hsl : sizeLine = 2 ^ 24 := rfl
  have l5 := le5 c.nod c.low
  unfold subB
  refine TSs_cons (TS_assign (fun env => rfl) (st_of hsc hro rfl) (TE_list (TEs_nil ⟨by decide, fun O hO => ?_⟩)))
  have c1 : G2I (ρ.upd "output" (.ref O)) (H.upd O (.list [])) ps its ta aa E T V es td S := (c.change (.inl hO)).loc (by decide) (by decide) (by decide) (by decide) (by decide)
  have hOT : O ≠ T := fun e => by rw [e, c.ht] at hO; cases hO
  refine TSs_cons (TS_for (fun env x => rfl) (TE_name (ld_of hsc rfl) (v := .ref T) (by exact c1.t) ⟨_, _, (iter_list (xs := td.map .int) (by unfold AHeap.items; rw [c1.ht]; rfl)).some, fun xs hx => ?_⟩))
  subst hx
  refine ⟨fun i ρ' H' => ∃ es', G2I ρ' H' ps its ta aa E T V es' td S ∧ ρ' "output" = some (.ref O) ∧ H' O = some (.list (((td.take i).filter (freeB ps td)).map .int)),
    ⟨es, c1, rfl, AHeap.upd_self _ _ _⟩, fun i ρ' H' ⟨_, h, _⟩ => by unfold AHeap.items; rw [h.ht]; rfl, fun i ρ₂ H₂ v hv hI I ob => ?_, fun ρ₂ H₂ hI => ?_⟩
  · obtain ⟨x, hx, rfl⟩ := item_int hv
    obtain ⟨es', c2, r_o, h_o⟩ := hI
    have hxm : x ∈ td := List.mem_of_getElem? hx
    have htk : td.take (i + 1) = td.take i ++ [x] := by rw [List.take_add_one, hx]; rfl
    have hlen := c2.len
    have c3 : G2I (ρ₂.upd "node" (.int x)) H₂ ps its ta aa E T V es' td S := c2.loc (by decide) (by decide) (by decide) (by decide) (by decide)
    refine TA_name (st_of hsc hro rfl) (TSs_cons (TS_if (TT_val (fun env whole => rfl) (TE_meth (fun env => rfl) (fun env => rfl) rfl (fun env => .inr ⟨_, _, rfl, rfl⟩) (TE_name (ld_of hsc rfl) (v := .ref V) (by exact c3.w) ⟨V, .wset S, _, rfl, c3.hw, meth_sdisj, TEs_cons (fun env => rfl) (TE_ddidx (fun _ _ => rfl) (TE_name (ld_of hsc rfl) (v := .ref E) (by exact c3.e) (TE_name (ld_of hsc rfl) (v := .int x) rfl
      ⟨E, x, rfl, rfl, ⟨es', by unfold AHeap.ents; rw [c3.D.at_]; rfl⟩, T2_dd c3.D (by omega) fun b es2 H' d hb he hfr => TEs_nil ?_⟩)))⟩)))))
    have c4 := c3.look d he (c.low x hxm) hfr
    have hVb : V ≠ b := fun e => by have := d.sets _ hb; rw [← show V = b from e, c4.hw] at this; cases this
    have hOE : O ≠ E := fun e => by rw [e, c3.D.at_] at h_o; cases h_o
    have h_o' : H' O = some (.list (((td.take i).filter (freeB ps td)).map .int)) := (hfr O hOE (by rw [h_o]; exact fun w => nomatch w)).trans h_o
    refine TC_isdisjoint (S := S) (T := par ps x) (by unfold AHeap.ints; rw [c4.hw]; rfl) (by unfold AHeap.ints; rw [d.sets _ hb]; rfl) hVb (TB_bool ?_)
    have hfree : ∀ dd : Decidable (∀ y ∈ S, y ∉ par ps x), @decide _ dd = freeB ps td x := fun dd => by
      unfold freeB
      rw [decide_eq_decide]
      exact ⟨fun h y hy => h y (c.perm.mem_iff.mpr hy), fun h y hy => h y (c.perm.mem_iff.mp hy)⟩
    rw [hfree]
    by_cases hf : freeB ps td x = true
    · rw [if_pos hf]
      refine TSs_cons (TS_expr (fun env => rfl) (TE_meth (fun env => rfl) (fun env => rfl) rfl (fun env => .inr ⟨_, _, rfl, rfl⟩) (TE_name (ld_of hsc rfl) (v := .ref O) (by exact r_o) ⟨O, _, _, rfl, h_o', meth_append, TEs_cons (fun env => rfl) (TE_name (ld_of hsc rfl) (v := .int x) rfl (TEs_nil (TC_append h_o' ?_ ?_)))⟩)))
      · have := List.length_filter_le (freeB ps td) (td.take i)
        rw [List.length_take] at this
        simp; omega
      · refine ⟨.inl rfl, TSs_nil (TSs_nil ⟨es2, c4.change (.inr ⟨hOT, _, h_o'⟩), by exact r_o, ?_⟩)⟩
        rw [AHeap.upd_self, htk, List.filter_append]
        simp [hf]
    · rw [if_neg hf]
      refine TSs_nil (TSs_nil ⟨es2, c4, by exact r_o, ?_⟩)
      rw [h_o', htk, List.filter_append]
      simp [hf]
  · obtain ⟨es', c2, r_o, h_o⟩ := hI
    rw [List.length_map, List.take_length] at h_o
    exact TSs_nil (TSs_nil ⟨rfl, O, es', c2, r_o, h_o⟩)
theorem sub_rest (k : C.Ok) (hsc : C.sc = fnS 4) (hro : C.ro = false) (c : G2I ρ H ps its ta aa E T V es td S) {O : Addr} (r_o : ρ "output" = some (.ref O)) (h_o : H O = some (.list ((layerOf ps td).map .int))) :
    TSs C ((subB.drop 3).take 2) ρ H fun f ρ' H' => f = .next ∧ ∃ T' S', G2I ρ' H' ps its ta aa E T' V es (leftOf ps td) S' ∧ ρ' "output" = some (.ref O) ∧ H' O = some (.list ((layerOf ps td).map .int)) := by
  have hsl : sizeLine = 2 ^ 24 := rfl
  have l5 := le5 c.nod c.low
  have hSn : S.Nodup := c.perm.nodup_iff.mpr c.nod
  obtain ⟨en, em⟩ := mem_erases (L := layerOf ps td) hSn
  have hOV : O ≠ V := fun e => by rw [e, c.hw] at h_o; cases h_o
  have hmem : ∀ x ∈ td, (x ∈ (layerOf ps td).foldl List.erase S ↔ freeB ps td x = false) := fun x hx => by
    rw [em, c.perm.mem_iff]
    unfold layerOf
    rw [List.mem_filter]
    simp [hx]
  unfold subB
  refine TSs_cons (TS_expr (fun env => rfl) (TE_meth (fun env => rfl) (fun env => rfl) rfl (fun env => .inr ⟨_, _, rfl, rfl⟩) (TE_name (ld_of hsc rfl) (v := .ref V) (by exact c.w) ⟨V, .wset S, _, rfl, c.hw, meth_sdiffupd, TEs_cons (fun env => rfl) (TE_name (ld_of hsc rfl) (v := .ref O) (by exact r_o) (TEs_nil (TC_sdiffupd (xs := layerOf ps td) c.hw (by unfold AHeap.items; rw [h_o]; rfl) ⟨.inl rfl, ?_⟩)))⟩)))
  have hTV : T ≠ V := fun e => by have := c.ht; rw [e, c.hw] at this; cases this
  generalize hS' : (layerOf ps td).foldl List.erase S = S' at em en hmem
  have h_T : (H.upd V (.wset S')) T = some (.list (td.map .int)) := by rw [AHeap.upd_ne _ _ hTV]; exact c.ht
  refine TSs_cons (TS_assignC k (by rw [hsc]; rfl) rfl (fun env x => rfl) (st_of hsc hro rfl) (sw_true hsc rfl rfl rfl rfl)
    (TE_name (ld_of hsc rfl) (v := .ref T) (by exact c.t) ⟨_, _, (iter_list (xs := td.map .int) (by unfold AHeap.items; rw [h_T]; rfl)).some, fun xs hx => ?_⟩))
  subst hx
  refine ⟨onInt fun t => decide (t ∈ S'), id, by simp; omega, fun C' ρ' H' inn hcap hfz a ha => ?_, fun r hr => ?_⟩
  · obtain ⟨t, ht, rfl⟩ := List.mem_map.mp ha
    have hW : ρ' "todo_set" = some (.ref V) := hcap _ _ rfl (by exact c.w)
    have hH : H' V = some (.fset S') := hfz V _ (by unfold AHeap.fzAll; rw [AHeap.upd_self]; rfl)
    have hsc' := inn.sc
    rw [hsc] at hsc'
    refine TA_name (by unfold stOk; rw [hsc']; rfl) ⟨fun x v h1 h2 => ?_, ?_⟩
    · by_cases e : x = "t"
      · subst e; exact absurd h1 (by decide)
      · rw [Loc.upd_ne _ _ e]; exact hcap x v h1 h2
    · refine TT_cmp rfl (TE_name (ld_of hsc' rfl) (v := .int t) rfl (TE_name (ld_of hsc' rfl) (v := .ref V) hW (T2_inS (S := S') (by unfold AHeap.ints; rw [hH]; rfl) ⟨_, rfl, rfl, rfl, fun _ => TE_name (ld_of hsc' rfl) (v := .int t) rfl ⟨rfl, rfl⟩⟩)))
  · rw [filter_onInt]
    have hfilt : (td.filter fun t => decide (t ∈ S')) = leftOf ps td := by
      unfold leftOf
      refine List.filter_congr fun x hx => ?_
      by_cases hf : freeB ps td x = true
      · rw [df _ (fun q => by rw [(hmem x hx).mp q] at hf; cases hf), hf]; rfl
      · have hf' := Bool.eq_false_iff.mpr hf
        rw [dt _ ((hmem x hx).mpr hf'), hf']; rfl
    rw [hfilt]
    have old : ∀ b o, H b = some o → b ≠ V → ((H.upd V (.wset S')).upd r (.list ((leftOf ps td).map .int))) b = some o := fun b o hb hbV => by
      have hbr : b ≠ r := fun e => by rw [← e, AHeap.upd_ne _ _ hbV, hb] at hr; cases hr
      rw [AHeap.upd_ne _ _ hbr, AHeap.upd_ne _ _ hbV]; exact hb
    have hVr : V ≠ r := fun e => by rw [← e, AHeap.upd_self] at hr; cases hr
    refine TSs_nil ⟨rfl, r, S', ?_, ?_, old O _ h_o hOV⟩
    · refine ⟨(Loc.upd_ne _ _ (by decide)).trans c.tup, (Loc.upd_ne _ _ (by decide)).trans c.all, (Loc.upd_ne _ _ (by decide)).trans c.e, Loc.upd_self _ _ _, (Loc.upd_ne _ _ (by decide)).trans c.w,
        old _ _ c.hta (fun e => by have := c.hta; rw [e, c.hw] at this; cases this), old _ _ c.haa (fun e => by have := c.haa; rw [e, c.hw] at this; cases this),
        ⟨old _ _ c.D.at_ (fun e => by have := c.D.at_; rw [e, c.hw] at this; cases this), c.D.keysN, c.D.addrN, fun p hp => old _ _ (c.D.sets p hp) (fun e => by have := c.D.sets p hp; rw [e, c.hw] at this; cases this), c.D.off⟩,
        c.keys, AHeap.upd_self _ _ _, ?_, ?_, fun x hx => c.low x (List.mem_filter.mp hx).1, c.nod.filter _⟩
      · rw [AHeap.upd_ne _ _ hVr, AHeap.upd_self]
      · unfold leftOf
        rw [List.perm_ext_iff_of_nodup en (c.nod.filter _)]
        intro x
        rw [List.mem_filter]
        constructor
        · intro hx
          have hxt : x ∈ td := c.perm.mem_iff.mp ((em x).mp hx).1
          exact ⟨hxt, by rw [(hmem x hxt).mp hx]; rfl⟩
        · rintro ⟨hxt, hf⟩
          exact (hmem x hxt).mpr (by simpa using hf)
    · exact (Loc.upd_ne _ _ (by decide)).trans r_o
end
end Mine
end
section
open PySem PySem.W PyProof.Rows PySem.SeqAt
open Builtin Builtin.ObjectAttr
set_option maxRecDepth 100000
set_option autoImplicit false
set_option linter.unusedVariables false
namespace Mine
/-- what is a frame's own -/
def Own (env : Env) (H : AHeap) (b : Addr) : Prop := b = env.locals ∨ (∃ p ∈ env.cells, p.2 = b) ∨ ∃ o, H b = some o ∧ o.fz = false
open Classical in
/-- all but that is held -/
noncomputable def reHB (env : Env) (H : AHeap) (h : Heap) : Addr → Option Obj := fun b => if Own env H b then none else h.get? b
theorem reHB_own {env : Env} {H : AHeap} {h : Heap} {b : Addr} (x : Own env H b) : reHB env H h b = none := if_pos x
theorem reHB_not {env : Env} {H : AHeap} {h : Heap} {b : Addr} (x : ¬ Own env H b) : reHB env H h b = h.get? b := if_neg x
noncomputable def Cx.re (C : Cx) (env : Env) (H : AHeap) (s : Shared) : Cx := { C with hB := reHB env H s.heap, gp := (· = s.gens) }
def Dom (h h' : Heap) : Prop := ∀ b, h.get? b ≠ none → h'.get? b ≠ none
theorem Dom.trans {a b c : Heap} (x : Dom a b) (y : Dom b c) : Dom a c := fun p h => y p (x p h)
theorem ExtK.dom {h h' : Heap} (x : ExtK h h') : Dom h h' := fun b hb => by
  obtain ⟨o, e⟩ := Option.ne_none_iff_exists'.mp hb
  obtain ⟨o', e', _⟩ := x b o e
  rw [e']; exact fun w => nomatch w
theorem Flying.weak {K : ExcK} {h0 h0' h : Heap} {e c d : Addr} {b : Bool} (x : Flying K h0 h e c d b) (m : Dom h0' h0) : Flying K h0' h e c d b where
  dom := fun a ha => x.dom a (m a ha)
  new := Classical.byContradiction fun q => m e q x.new
  inst := x.inst
  dic := fun o dx g hd => Classical.byContradiction fun q => m dx q (x.dic o dx g hd)
  dat := by
    obtain ⟨o, vs, h1, h2, h3, h4, h5, h6⟩ := x.dat
    refine ⟨o, vs, h1, h2, h3, h4, h5, ?_⟩
    rcases h6 with h6 | ⟨t, ot, tv, g1, g2, g3, g4, g5, g6, g7⟩
    · exact .inl h6
    · exact .inr ⟨t, ot, tv, g1, g2, g3, g4, g5, Classical.byContradiction fun q => m t q g6, g7⟩
section
variable {C : Cx} {A : Around} {env : Env} {ρ : Loc} {H : AHeap} {s : Shared}
theorem SRep.only {H' : AHeap} (R : SRep C env ρ H s) (h : ∀ b o, H' b = some o → H b = some o) : SRep C env ρ H' s where
  keep := R.keep
  fr := R.fr
  sep := by
    cases e : H' env.locals with
    | none => rfl
    | some o => have := h _ _ e; rw [R.sep] at this; cases this
  hp := fun b o e => R.hp b o (h b o e)
  gens := R.gens
  os := R.os
theorem SRep.own_old (R : SRep C env ρ H s) (hro : C.ro = false) {b : Addr} (x : Own env H b) : C.hB b = none := by
  rcases x with rfl | ⟨p, hp, rfl⟩ | ⟨o, h1, h2⟩
  · exact R.fr.newL
  · exact R.fr.newC hro p hp
  · have := (R.hp b o h1).2
    unfold Place at this
    rw [h2] at this; exact this
theorem SRep.rebase (k : C.Ok) (hro : C.ro = false) (R : SRep C env ρ H s) {s' : Shared} {X : Addr → Prop} (t : TExt s.heap s'.heap) (hk : ∀ b o, ¬ X b → s.heap.get? b = some o → Kept s'.heap b o)
    (hx : ∀ b, X b → ¬ Own env H b ∧ H b = none ∧ C.gb.get? b = none) (ho : s'.os = C.os) : (C.re env H s').Ok ∧ SRep (C.re env H s') env ρ H s' := by
  have nx : ∀ b, Own env H b → ¬ X b := fun b h q => (hx b q).1 h
  have f := R.fr.k (h' := s'.heap) t (fun o => hk _ o (nx _ (.inl rfl))) (fun p hp o => hk _ o (nx _ (.inr (.inl ⟨p, hp, rfl⟩))))
  refine ⟨⟨fun b o e => ?_, k.glob, k.nolim⟩, fun b o e => ?_, ⟨f.sc, f.kind, f.gl, f.bl, f.low, f.ns, f.cells, f.apart, reHB_own (.inl rfl), fun _ p hp => reHB_own (.inr (.inl ⟨p, hp, rfl⟩)), f.cin, f.frm⟩, R.sep, fun a o e => ?_, rfl, ho⟩
  · obtain ⟨o', h1, h2⟩ := k.base b o e
    obtain ⟨o2, h3, h4⟩ := R.keep b o' h1
    have e0 : C.gb.get? b = some o := e
    have nX : ¬ X b := fun q => by have := (hx b q).2.2; rw [e0] at this; cases this
    obtain ⟨o3, h5, h6⟩ := hk b o2 nX h3
    refine ⟨o3, ?_, (h2.trans h4).trans h6⟩
    show reHB env H s'.heap b = some o3
    rw [reHB_not fun q => by have := R.own_old hro q; rw [h1] at this; cases this]
    exact h5
  · have e' : reHB env H s'.heap b = some o := e
    by_cases q : Own env H b
    · rw [reHB_own q] at e'; cases e'
    · rw [reHB_not q] at e'; exact .of e'
  · have nX : ¬ X a := fun q => by have := (hx a q).2.1; rw [e] at this; cases this
    have y := R.hp a o e
    refine ⟨y.1.k t fun ob g => hk a ob nX g, ?_⟩
    have p := y.2
    unfold Place at p ⊢
    cases hz : o.fz with
    | false => exact reHB_own (.inr (.inr ⟨o, e, hz⟩))
    | true =>
      rw [hz] at p
      obtain ⟨ob, p1, p2⟩ := p
      have g1 := (R.keep a ob p1).exact p2.nf
      have g2 := (hk a ob nX g1).exact p2.nf
      refine ⟨ob, ?_, p2⟩
      show reHB env H s'.heap a = some ob
      rw [reHB_not ?_]
      · exact g2
      · rintro (rfl | ⟨p, hp, rfl⟩ | ⟨o', h1, h2⟩)
        · have := R.sep; rw [e] at this; cases this
        · obtain ⟨v, oc, hc, hd⟩ := R.fr.cin p hp
          obtain ⟨ob', h3, h4, _⟩ := y.1.there
          rw [hc] at h3; cases h3; exact h4 _ hd
        · rw [e] at h1; cases h1; rw [hz] at h2; cases h2
/-- a new generator -/
noncomputable def Cx.born (C : Cx) (i room : Nat) (h : Heap) : Cx := { C with hB := fun b => h.get? b, sc := fnS i, room := room, ro := false, gp := fun _ => True }
theorem gen_made {fa : Addr} {o : Obj} {fd : FuncData} {i room : Nat} {ps : List Str} {avs : List AV} {vs vs' : List Value} {Q : Value → Shared → Prop} {E : Value → Shared → Prop} (k : C.Ok) (R : SRep C env ρ H s) (hroom : A.depth + 1 < recursionLimit)
    (ho : C.gb.get? fa = some o) (hd : o.data = .func fd) (hcls : o.cls = .type "function") (hcd : C.gb.CodeRec fd.code fd.qualname) (hbody : fd.body = .stmts (fnB i)) (hclo : fd.closure = []) (hg : fd.globals = mainGlobals) (hb : fd.builtins = builtinsNs) (hs : fd.scope = fnS i)
    (hk : (fnS i).kind = .function) (hco : (fnS i).isCoroutine = false) (hgen : (fnS i).isGenerator = true) (hsc : scGood (fnS i) ps = true)
    (hv : VReps s.heap avs vs') (hps : avs.length = ps.length) (hbind : ∀ (A' : Around) (Q' : List (Str × Value) → Shared → Prop) (E' : Value → Shared → Prop), Q' (ps.zip vs') s → wpAny (model C.prog C.w) A' (bindArgs fd ⟨vs, []⟩) Q' E' s)
    (h : ∀ G envG s', s'.heap.IsGen G s.gens.size → s.heap.get? G = none → Ext s.heap s'.heap → s'.gens = s.gens.push (.fresh (.func (fnB i) envG)) → s'.os = s.os →
      (∀ b, Own envG (fun _ => none) b → s.heap.get? b = none ∧ b ≠ G) → SRep (C.born i room s.heap) envG (fun x => (ps.zip avs).lookup x) H.fzAll s' → (C.born i room s.heap).Ok → Q (.ref G) s') :
    wpAny (model C.prog C.w) A (call (.ref fa) vs) Q E s := by
  have st : ExtK C.gb s.heap := R.st k
  have hnf : o.cls ≠ .type "frame" := by rw [hcls]; exact fun q => absurd (Value.type.inj q) (by decide)
  have good := scGood_ok hsc
  have hvl : vs'.length = ps.length := hv.length.symm.trans hps
  have hnd : ((ps.zip vs').map (·.1)).Nodup := by rw [zip_names hvl]; exact good.pars
  refine wpAny_call (codeAny_call_generator (by omega) ((st _ _ ho).exact hnf) hd (by rw [hs]; exact hco) (by rw [hs]; exact hgen) hbody (code_k hcd st) ?_)
  refine hbind _ _ _ ?_
  rw [hclo, hs, hg, hb]
  refine newEnvK (by exact hk) (fun x hx => ?_) fun envG heG s₁ hs₁ hF₁ => ?_
  · have hm : x.1 ∈ ps := by rw [← zip_names hvl]; exact List.mem_map_of_mem hx
    rcases good.kinds _ hm with e | e
    · exact .inl e
    · exact .inr ⟨e, cell_some e⟩
  · have hL : envG.locals = s.heap.objs.size := by rw [heG]; rfl
    have hcl : envG.cells = cellsFrom (s.heap.objs.size + 1) (fnS i).names [] := by rw [heG]; rfl
    have hkd : ∀ x, envG.kindOf x = (fnS i).names.lookup x := fun x => by rw [heG]; rfl
    obtain ⟨h₁, tk₁, he₁⟩ := hs₁.toInCall.same
    have x₁ : Ext s.heap s₁.heap := hs₁.toInCall.keep
    have hgens : s₁.gens = s.gens := by rw [he₁]
    have hos : s₁.os = s.os := by rw [he₁]
    refine ⟨nolim_k (R.nolim k) x₁.k, ?_⟩
    generalize hgo : ({ cls := .type "generator", data := .fields #[.int s₁.gens.size 0, .str fd.name s₁.toks, .str fd.qualname (s₁.toks + 1)] } : Obj) = og
    have hogf : og.isFreed = false := by rw [← hgo]; rfl
    have x₂ : Ext s₁.heap (s₁.heap.push og) := Ext.push _ _
    have xx : Ext s.heap (s₁.heap.push og) := x₁.trans x₂
    have lt1 : s.heap.objs.size ≤ s₁.heap.objs.size := Nat.le_of_lt (by have := hs₁.toInCall.ns.lt; rw [hL] at this; exact this)
    have ltc : ∀ p ∈ envG.cells, s.heap.objs.size < p.2 ∧ p.2 < s₁.heap.objs.size := fun p hp => by
      refine ⟨by have := hs₁.above p.1 p.2 hp; rw [hL] at this; exact this, ?_⟩
      obtain ⟨o', ho', _⟩ := hs₁.cell p.1 p.2 (by rw [hcl] at hp ⊢; exact cell_own good.names hp)
      exact Heap.lt_size ho'
    refine h s₁.heap.objs.size envG _ ⟨og, _, _, Heap.get?_push_size _ hogf, by rw [← hgo], by rw [← hgo, hgens], by rw [← hgo]⟩ (Heap.get?_none_of_le lt1) xx (by rw [hgens]) hos (fun b hb => ?_) ?_ ⟨fun b o e => st b o e, k.glob, k.nolim⟩
    · rcases hb with rfl | ⟨p, hp, rfl⟩ | ⟨_, q, _⟩
      · exact ⟨Heap.get?_none_of_le (by rw [hL]; exact Nat.le_refl _), Nat.ne_of_lt hs₁.toInCall.ns.lt⟩
      · exact ⟨Heap.get?_none_of_le (Nat.le_of_lt (ltc p hp).1), Nat.ne_of_lt (ltc p hp).2⟩
      · cases q
    · refine ⟨fun b o e => .of (xx b o e), ⟨by rw [heG]; rfl, hk, by rw [heG]; rfl, by rw [heG]; rfl, by rw [hL]; exact Nat.lt_trans R.fr.low R.ltL, ⟨_, hs₁.toInCall.ns.at' fun o => x₂ _ o, fun x v h1 h2 => ?_⟩, fun x hx => ?_, hs₁.apart, ?_, fun _ p hp => ?_, fun p hp => ?_, fun _ => ⟨by rw [heG]; rfl, ?_⟩⟩, ?_, fun b o e => ?_, trivial, hos.trans R.os⟩
      · obtain ⟨c, h3, h4⟩ := zip_look hv h2
        refine ⟨c, ?_, h4.t xx.t⟩
        rw [bindL_get _ _ _ _ hnd ((hkd x).trans h1), h3]; rfl
      · have hc : (fnS i).names.lookup x = some .cell := by
          rcases hx with e | e
          · exact e
          · exact absurd rfl (good.nofree _ (mem_of_lookup' e))
        obtain ⟨ca, hca⟩ := Option.isSome_iff_exists.mp (cell_some (n := s.heap.objs.size + 1) hc)
        have hca' : envG.cells.lookup x = some ca := by rw [hcl]; exact hca
        obtain ⟨oc, hoc, hdc⟩ := hs₁.cell _ _ hca'
        refine ⟨ca, _, hca', ⟨oc, x₂ _ _ hoc, hdc⟩, fun v hv' => ?_⟩
        obtain ⟨c, h3, h4⟩ := zip_look hv hv'
        refine ⟨c, ?_, h4.t xx.t⟩
        rw [bindC_get _ _ _ _ hnd (by rw [hkd, hc]; decide), h3]; rfl
      · exact Heap.get?_none_of_le (by rw [hL]; exact Nat.le_refl _)
      · exact Heap.get?_none_of_le (Nat.le_of_lt (ltc p hp).1)
      · obtain ⟨oc, hoc, hdc⟩ := hs₁.cell p.1 p.2 (by rw [hcl] at hp ⊢; exact cell_own good.names hp)
        exact ⟨_, oc, x₂ _ _ hoc, hdc⟩
      · obtain ⟨oF, hoF, hcF⟩ := hF₁
        exact ⟨oF, x₂ _ _ hoF, hcF⟩
      · unfold AHeap.fzAll
        rw [hL, R.unheld (Nat.le_refl _)]; rfl
      · unfold AHeap.fzAll at e
        cases q : H b with
        | none => rw [q] at e; cases e
        | some o' =>
          rw [q] at e
          obtain ⟨h1, h2, ob, h3, h4⟩ := (R.hp b o' q).1.freeze e
          refine ⟨h1.t xx.t fun ob => xx b ob, ?_⟩
          unfold Place
          rw [h2]
          exact ⟨ob, h3, h4⟩
end
end Mine
end
section
open PySem PySem.W PyProof.Rows PySem.SeqAt
open Builtin Builtin.ObjectAttr
set_option maxRecDepth 100000
set_option autoImplicit false
set_option linter.unusedVariables false
namespace Mine
theorem ExcIn.k {K : ExcK} {h h' : Heap} (x : ExcIn K h) (e : ExtK h h') : ExcIn K h' where
  cls := (e _ _ x.cls).exact (by show (Value.type "type") ≠ .type "frame"; exact fun q => absurd (Value.type.inj q) (by decide))
  ns := ns_k x.ns fun o => e _ o
  init := x.init
  ga := x.ga
  gt := x.gt
  sa := x.sa
  cy := x.cy
  ed := x.ed
  fn := let ⟨o, fd, h1, h2, h3, h4, r⟩ := x.fn; ⟨o, fd, (e _ _ h1).exact (by rw [h2]; exact fun q => absurd (Value.type.inj q) (by decide)), h2, h3, code_k h4 e, r⟩
section
variable {M : Model} {A : Around} {E : Value → Shared → Prop} {s : Shared}
theorem callWith_exc {K : ExcK} {pos : Pos} {args : List (Bool × Sem Value)} {Q : Value → Shared → Prop} (hplain : args.any (·.1) = false)
    (h : wpAny M A (evalArgs (.ref K.C) true args []) (fun x s₁ => ExcIn K s₁.heap ∧ wpAny M A (call (.ref K.C) x.pos x.kw) Q E s₁) E s) :
    wpAny M A (callWith pos (.ref K.C) [] args []) Q E s := by
  unfold callWith
  refine wpAny_bind (wpAny_holding (wpAny_mono h (fun x s₁ ⟨X, h₁⟩ => wpAny_bind (wpAny_standAt ?_)) fun _ _ x => x))
  have tail : ∀ {t : Sem Value}, wpAny M A t Q E s₁ → wpAny M A (t >>= fun r => holding [r] point >>= fun _ => pure r) Q E s₁ :=
    fun ht => wpAny_bind (wpAny_mono ht (fun r s₂ hr => wpAny_bind (wpAny_holding (wpAny_point (wpAny_pure hr)))) fun _ _ x => x)
  have hC := X.cls
  have hT : s₁.TypeIs (.ref K.C) "type" := ⟨_, hC, rfl⟩
  simp only [hplain, List.any_nil, Bool.or_false]
  refine wpAny_bind (m := keeperOf (.ref K.C)) ?_
  unfold keeperOf
  refine wpAny_bind (wpAny_load hC ?_)
  dsimp only
  refine wpAny_bind (wpAny_specialOf hT tc_lookup (wpAny_pure ?_))
  rw [if_pos (by rfl)]
  exact tail h₁
end
section
variable {C : Cx} {A : Around} {env : Env} {ρ : Loc} {H : AHeap} {s : Shared}
theorem TE_str {x : Str} {k : Nat} {pos : Pos} {Q : AV → AHeap → Prop} (h : ∀ t, Q (.val (.str x t)) H) : TE C (.Constant (.str x) k pos) ρ H Q := fun A env s ok r =>
  Calls.Constant_str ⟨TExt.refl _, .val _, H, rfl, r.tok, h _⟩
/-- the raise in the loop of sort_as_subsets -/
def subIf : Stmt := match subB with
  | [_, _, a, _, _, _] => a
  | _ => default
def subR : List Stmt := match subIf with
  | .If _ b _ _ => b
  | _ => []
def subY : Stmt := match subB with
  | [_, _, _, _, _, a] => a
  | _ => default
def subA : List Expr := match subR with
  | [.Raise (some (.Call _ a _ _)) _ _] => a
  | _ => []
theorem subB_eq : subB = subB.take 2 ++ (subIf :: ((subB.drop 3).take 2 ++ [subY])) := rfl
variable {ps : List (Int × Int)} {its : List Int} {ta aa E T V : Addr} {es : List (Int × Addr)} {td S : List Int}
theorem sub_raise {K : ExcK} (fs : Fns C.G C.gb) (k : C.Ok) (hsc : C.sc = fnS 4) (hro : C.ro = false) (X : ExcIn K C.gb) (hK : C.G "CircularDependencyError" = some (.ref K.C)) (hr : 6 < C.room) (c : G2I ρ H ps its ta aa E T V es td S)
    (hlen : ps.length < 100) (hin : ∀ p ∈ ps, (0 ≤ p.1 ∧ p.1 < 5) ∧ 0 ≤ p.2 ∧ p.2 < 5) (hcnt : ∀ ks : List Int, ks.Nodup → (ks.map fun x => (par ps x).length).sum < 12) (ok : AOk C A env) (R : SRep C env ρ H s) :
    wpAny (model C.prog C.w) A (execs subR env) (fun _ _ => False) (fun x s' => ∃ e c d H' Sc Sd s₂ o tu, x = .ref e ∧ SRep C env ρ H' s₂ ∧ Ext s₂.heap s'.heap ∧ s'.gens = s₂.gens ∧ s'.os = s₂.os ∧ s₂.heap.get? e = none ∧ H' c = some (.iset Sc) ∧ (∀ x, x ∈ Sc ↔ Ring ps x) ∧ H' d = some (.pset Sd) ∧ (∀ p, p ∈ Sd ↔ p ∈ ps) ∧
      s'.heap.get? e = some o ∧ (∀ dx, o.dict = some dx → s₂.heap.get? dx = none) ∧ o.cls = .ref K.C ∧ o.data = .fields #[.ref tu, .none, .none, .none, .bool false, .none] ∧
      s'.heap.Inst e K.C (fun y => if y = ("edges" : Str) then some (.ref d) else if y = ("cycles" : Str) then some (.ref c) else none)) s := by
  have hroom : 0 < C.room := by omega
  obtain ⟨fc, hfc, Fc⟩ := fs.cycles
  obtain ⟨fe, hfe, Fe⟩ := fs.edges
  unfold subR subIf subB
  refine wpAny_execs_cons ?_
  rw [arm_exec_Raise]
  refine wpAny_bind (wpAny_standAt ?_)
  refine exc_raise (K := K) ok.handled ?_
  refine wpAny_bind ?_
  refine wpAny_Call_NameR (wpAny_mono (TE_global (Q := fun v H' => v = .val (.ref K.C) ∧ H' = H) k (gl_of hsc rfl) hK ⟨rfl, rfl⟩ A env s ok R) (fun f s₁ ⟨t₁, v, H₁, h1, h2, e1, e2⟩ => ?_) fun _ _ x => x.elim)
  subst e1; subst e2
  obtain rfl := h1
  have args : TEs C subA ρ H₁ fun as H' => ∃ t c d Sc Sd, as = [.val (.str "Circular dependency detected." t), .ref c, .ref d] ∧ H' c = some (.iset Sc) ∧ (∀ x, x ∈ Sc ↔ Ring ps x) ∧ H' d = some (.pset Sd) ∧ ∀ p, p ∈ Sd ↔ p ∈ ps := by
    unfold subA subR subIf subB
    refine TEs_cons (fun env => rfl) (TE_str fun t => TEs_cons (fun env => rfl) (TE_call k (gl_of hsc rfl) hfc Fc.callee (fun env => ⟨_, _, rfl, rfl⟩) (TEs_cons (fun env => rfl) (TE_name (ld_of hsc rfl) (v := .ref ta) (by exact c.tup) (TEs_cons (fun env => rfl) (TE_name (ld_of hsc rfl) (v := .ref aa) (by exact c.all) (TEs_nil ?_)))))))
    refine TC_cycles (ps := ps) Fc fs k hroom (by unfold AHeap.items; rw [c.hta]; rfl) hlen hin fun r Sc hrn nSc mSc => ?_
    refine TEs_cons (fun env => rfl) (TE_call k (gl_of hsc rfl) hfe Fe.callee (fun env => ⟨_, _, rfl, rfl⟩) (TEs_cons (fun env => rfl) (TE_name (ld_of hsc rfl) (v := .ref E) (by exact c.e) (TEs_nil ?_))))
    refine TC_edges (E := E) (es := es) (f := par ps) Fe k hroom (c.change (o := .iset Sc) (.inl hrn)).D (fun p hp => ⟨c.keys _ (List.mem_map_of_mem hp), fun x hx => (hin _ (mem_par.mp hx)).1⟩) (by have := hcnt _ c.D.keysN; rwa [List.map_map] at this) fun r2 Sd hr2 mSd => ?_
    exact TEs_nil ⟨t, r, r2, Sc, Sd, rfl, by rw [AHeap.upd_ne _ _ fun e => by rw [← e, AHeap.upd_self] at hr2; cases hr2]; exact AHeap.upd_self _ _ _, mSc, AHeap.upd_self _ _ _, fun p => (mSd p).trans mem_par⟩
  refine callWith_exc (K := K) (by rfl) (Calls.evalArgs_plain (wpAny_mono (args A env s₁ _ ok h2) (fun vs s₂ ⟨t₂, as, H', h4, h5, t, c, d, Sc, Sd, e3, g1, g2, g3, g4⟩ => ?_) fun _ _ x => x.elim))
  subst e3
  match vs, h4 with
  | [v1, v2, v3], ⟨q1, q2, q3, _⟩ =>
    obtain rfl := q1
    obtain rfl := q2
    obtain rfl := q3
    have X₂ : ExcIn K s₂.heap := X.k (h5.st k)
    refine ⟨X₂, exc_made ok.handled (by have := ok.depth; omega) (h5.nolim k) X₂ fun h' tk e o tu x hne he hc hd hI hdx => ?_⟩
    refine wpAny_bind (wpAny_standAt (wpAny_pure ⟨e, o, tu, rfl, X₂.ext x, he, hc, hd, ?_⟩))
    exact ⟨e, c, d, H', Sc, Sd, s₂, o, tu, rfl, h5, x, rfl, rfl, hne, g1, g2, g3, g4, he, hdx, hc, hd, hI⟩
end
end Mine
end
section
open PySem PySem.W PyProof.Rows PySem.SeqAt
open Builtin Builtin.ObjectAttr
set_option maxRecDepth 100000
set_option autoImplicit false
set_option linter.unusedVariables false
namespace Mine
/-- how the layers go; whether it stops at a ring -/
inductive Lays (ps : List (Int × Int)) : List Int → List (List Int) → Bool → Prop
  | done : Lays ps [] [] false
  | stuck {td : List Int} : td ≠ [] → layerOf ps td = [] → Lays ps td [] true
  | step {td : List Int} {Ls : List (List Int)} {bad : Bool} : td ≠ [] → layerOf ps td ≠ [] → Lays ps (leftOf ps td) Ls bad → Lays ps td (layerOf ps td :: Ls) bad
/-- what a generator keeps while it runs -/
def KeepN (hN : Heap) (X : Addr → Prop) (s₀ s' : Shared) : Prop := TExt s₀.heap s'.heap ∧ (∀ b o, hN.get? b ≠ none → ¬ X b → s₀.heap.get? b = some o → Kept s'.heap b o) ∧ s'.os = s₀.os
/-- what the others keep while it sleeps -/
def Back (X : Addr → Prop) (stk : List Env) (s' s'' : Shared) : Prop := TExt s'.heap s''.heap ∧ (∀ b o, ¬ X b → s'.heap.get? b = some o → Kept s''.heap b o) ∧ Dom s'.heap s''.heap ∧ s''.os = s'.os ∧ ∀ e ∈ stk, FrameOk s''.heap e
/-- an exception that tells of the rings and of the edges -/
def Told (K : ExcK) (w : World) (hN : Heap) (ps : List (Int × Int)) (h : Heap) (e : Addr) : Prop :=
  ∃ c d l m, Flying K hN h e c d true ∧ (hN.get? c = none ∧ hN.get? d = none) ∧ ISet w h c l ∧ (∀ x, x ∈ l ↔ Ring ps x) ∧ PSet w h d m ∧ ∀ p, p ∈ m ↔ p ∈ ps
theorem execs_append_wrap {env : Env} {K : Flow → Sem Fin} {H : Value → Sem Fin} {gd : Bool → Bool} {lv : List Value → List Value} (rest : List Stmt) : ∀ pre : List Stmt,
    (execs (pre ++ rest) env).wrap K H gd lv = (execs pre env).wrap (fun f => match f with | .next => (execs rest env).wrap K H gd lv | f => K f) H gd lv
  | [] => rfl
  | st :: pre => by
    rw [List.cons_append, execs_cons_wrap, execs_cons_wrap]
    refine Sem.wrap_congr _ _ _ (fun f => ?_) fun _ => rfl
    cases f with
    | next => exact execs_append_wrap rest pre
    | _ => rfl
theorem Stands.text {K : ExcK} {h0 h h' : Heap} (x : Stands K h0 h h') : TExt h h' := fun b vs n e =>
  (x b _ e (.inr ⟨fun q => absurd (Value.type.inj q) (by decide), fun q => nomatch q⟩)).exact fun q => absurd (Value.type.inj q) (by decide)
theorem Stands.set {K : ExcK} {h0 h h' : Heap} (x : Stands K h0 h h') {b : Addr} {o : Obj} (e : h.get? b = some o) (hc : o.cls = .type "set") : h'.get? b = some o :=
  (x b _ e (.inr ⟨by rw [hc]; exact fun q => absurd (Value.type.inj q) (by decide), by rw [hc]; exact fun q => nomatch q⟩)).exact (by rw [hc]; exact fun q => absurd (Value.type.inj q) (by decide))
theorem Stands.iset {K : ExcK} {w : World} {h0 h h' : Heap} (x : Stands K h0 h h') {a : Addr} {l : List Int} (y : ISet w h a l) : ISet w h' a l :=
  let ⟨es, ep, g, r⟩ := y; ⟨es, ep, x.set g rfl, r⟩
theorem Stands.pset {K : ExcK} {w : World} {h0 h h' : Heap} (x : Stands K h0 h h') {a : Addr} {l : List (Int × Int)} (y : PSet w h a l) : PSet w h' a l :=
  let ⟨es, ep, t, g, r, q⟩ := y; ⟨es, ep, t, x.set g rfl, r.t x.text, q⟩
abbrev fK : Flow → Sem Fin := fun f => .pure (.done (.ret (match f with | .ret v => v | _ => .none)))
abbrev fH (env : Env) : Value → Sem Fin := fun e => (leaving env e).wrap (fun _ => .raise e) .raise id id
abbrev wK (env : Env) : Flow → Sem Fin := fun f => match f with | .next => (execs [] env).wrap fK (fH env) id id | f => fK f
abbrev wFrame (env : Env) (b : List Stmt) (p : Pos) : Frame := .ret (ownK env (wK env) (fH env) id id) none (id false) (id []) (.func b env) p []
/-- the room about a generator's run -/
structure GenCtx (C : Cx) (A : Around) (outer : List Env) : Prop where
  handled : A.handled = none
  frames : A.frames = some outer
  depth : A.depth + 1 + C.room < recursionLimit
  units : A.units + 3 + 100 * C.room + 50 < cLine
section
variable {C : Cx} {A : Around} {env : Env} {outer : List Env} {ρ : Loc} {H : AHeap} {s : Shared}
theorem GenCtx.fr1 (g : GenCtx C A outer) (b : List Stmt) : (A.over (.func b env) []).frames = some (env :: outer) := by
  show pushEnvs [env] (pushEnvs [] A.frames) = _
  rw [g.frames]; rfl
theorem GenCtx.fr2 (g : GenCtx C A outer) (b : List Stmt) (p : Pos) {c : Code} (hc : c.envs = []) : (A.over c [wFrame env b p]).frames = some (env :: outer) := by
  show pushEnvs c.envs (pushEnvs [env] A.frames) = _
  rw [hc, g.frames]; rfl
theorem GenCtx.func (g : GenCtx C A outer) (b : List Stmt) (h : ∀ e ∈ outer, Held C e) : AOk C (A.over (.func b env) []) env := by
  refine ⟨g.handled, ?_, ?_, fun _ => ⟨outer, g.fr1 b, h⟩⟩
  · have := g.depth
    show A.depth + 0 + 1 + C.room < recursionLimit
    omega
  · have := g.units
    show A.units + 0 + 3 + 100 * C.room + 50 < cLine
    omega
theorem GenCtx.loop (g : GenCtx C A outer) (b : List Stmt) (p : Pos) (h : ∀ e ∈ outer, Held C e) {c : Code} (hc : c.envs = []) (hw : c.weight = 0) (hu : c.cUnits = 0) : AOk C (A.over c [wFrame env b p]) env := by
  refine ⟨g.handled, ?_, ?_, fun _ => ⟨outer, g.fr2 b p hc, h⟩⟩
  · have := g.depth
    show A.depth + 1 + c.weight + C.room < recursionLimit
    rw [hw]; omega
  · have := g.units
    show A.units + 3 + c.cUnits + 100 * C.room + 50 < cLine
    rw [hu]; omega
end
end Mine
end
section
open PySem PySem.W PyProof.Rows PySem.SeqAt
open Builtin Builtin.ObjectAttr
set_option maxRecDepth 100000
set_option autoImplicit false
set_option linter.unusedVariables false
namespace Mine
/-- sort_as_subsets' generator: what is given -/
structure G2P where
  B : Cx
  env : Env
  A : Around
  outer : List Env
  hN : Heap
  X : Addr → Prop
  K : ExcK
  ps : List (Int × Int)
  its : List Int
  ta : Addr
  aa : Addr
  LL : List (List Int)
  bad : Bool
structure G2P.Ok (P : G2P) : Prop where
  sc : P.B.sc = fnS 4
  ro : P.B.ro = false
  stk : P.B.stk = true
  fs : Fns P.B.G P.B.gb
  exc : ExcIn P.K P.B.gb
  excG : P.B.G "CircularDependencyError" = some (.ref P.K.C)
  room : 6 < P.B.room
  ctx : GenCtx P.B P.A P.outer
  outs : ∀ e ∈ P.outer, ∀ L, e.frame = some L → P.hN.get? L ≠ none
  x1 : ∀ b, P.X b → P.hN.get? b ≠ none
  x2 : ∀ b, P.X b → P.B.gb.get? b = none
  x3 : ∀ b, P.X b → b ≠ P.ta ∧ b ≠ P.aa
  gbN : Dom P.B.gb P.hN
  len : P.ps.length < 100
  inn : ∀ p ∈ P.ps, (0 ≤ p.1 ∧ p.1 < 5) ∧ 0 ≤ p.2 ∧ p.2 < 5
  cnt : ∀ ks : List Int, ks.Nodup → (ks.map fun x => (par P.ps x).length).sum < 12
/-- how it ends -/
def G2P.R (P : G2P) : GenEnd := fun m s₀ r s' => KeepN P.hN (fun _ => False) s₀ s' ∧ s'.gens = s₀.gens ∧ m = 0 ∧
  ((P.bad = false ∧ r = .ok (.ret .none)) ∨ (P.bad = true ∧ ∃ e, r = .error (.ref e) ∧ Told P.K P.B.w P.hN P.ps s'.heap e ∧ ExcIn P.K s'.heap ∧ ∀ x ∈ P.outer, FrameOk s'.heap x))
/-- what it yields -/
def G2P.Y (P : G2P) : Protocol := fun m s₀ v s' kap => ∃ xs a, P.LL[P.LL.length - 1 - m]? = some xs ∧ m < P.LL.length ∧ v = .ref a ∧ P.hN.get? a = none ∧ LRep s'.heap a (xs.map .int) ∧ KeepN P.hN (fun _ => False) s₀ s' ∧ s'.gens = s₀.gens ∧
  ∀ s'', Back P.X P.outer s' s'' → kap (.send .none) s''
noncomputable abbrev G2P.C (P : G2P) (H₀ : AHeap) (s₀ : Shared) : Cx := P.B.re P.env H₀ s₀
/-- amid a run that began at s₀ -/
structure Amid (P : G2P) (s₀ : Shared) (H₀ : AHeap) (s : Shared) (ρ : Loc) (H : AHeap) : Prop where
  dom : Dom P.hN s₀.heap
  fr : ∀ e ∈ P.outer, FrameOk s₀.heap e
  own : ∀ b, Own P.env H₀ b → P.hN.get? b = none
  ok : (P.C H₀ s₀).Ok
  r0 : ∃ ρ₀, SRep (P.C H₀ s₀) P.env ρ₀ H₀ s₀
  R : SRep (P.C H₀ s₀) P.env ρ H s
section
variable {P : G2P} {s₀ s s' : Shared} {H₀ H H' : AHeap} {ρ ρ' : Loc}
theorem Amid.step (a : Amid P s₀ H₀ s ρ H) (R : SRep (P.C H₀ s₀) P.env ρ' H' s') : Amid P s₀ H₀ s' ρ' H' := ⟨a.dom, a.fr, a.own, a.ok, a.r0, R⟩
theorem Amid.held (a : Amid P s₀ H₀ s ρ H) (p : P.Ok) : ∀ e ∈ P.outer, Held (P.C H₀ s₀) e := fun e he => by
  obtain ⟨h1, L, o, h2, h3, h4⟩ := a.fr e he
  refine ⟨h1, L, o, h2, ?_, h4⟩
  show reHB P.env H₀ s₀.heap L = some o
  rw [reHB_not fun q => p.outs e he L h2 (a.own L q)]
  exact h3
theorem Amid.keep (a : Amid P s₀ H₀ s ρ H) (p : P.Ok) : KeepN P.hN (fun _ => False) s₀ s := by
  obtain ⟨ρ₀, R0⟩ := a.r0
  refine ⟨fun b vs n e => ?_, fun b o hb _ e => ?_, a.R.os.trans R0.os.symm⟩
  · have nO : ¬ Own P.env H₀ b := by
      rintro (rfl | ⟨q, hq, rfl⟩ | ⟨o, h1, h2⟩)
      · obtain ⟨_, oF, h3, h4⟩ := R0.fr.frm p.stk
        rw [e] at h3; cases h3
        exact absurd (Value.type.inj h4) (by decide)
      · obtain ⟨v, oc, hc, hd⟩ := R0.fr.cin q hq
        rw [e] at hc; cases hc; cases hd
      · obtain ⟨ob, h3, _, h5⟩ := (R0.hp b o h1).1.there
        rw [e] at h3; cases h3; exact h5 _ _ rfl
    exact (a.R.keep b _ (by show reHB P.env H₀ s₀.heap b = _; rw [reHB_not nO]; exact e)).exact fun q => absurd (Value.type.inj q) (by decide)
  · exact a.R.keep b o (by show reHB P.env H₀ s₀.heap b = _; rw [reHB_not fun q => hb (a.own b q)]; exact e)
theorem KeepN.dom {hN : Heap} {s₀ s : Shared} (k : KeepN hN (fun _ => False) s₀ s) (d : Dom hN s₀.heap) : Dom hN s.heap := fun b hb => by
  obtain ⟨o, e⟩ := Option.ne_none_iff_exists'.mp (d b hb)
  obtain ⟨o', e', _⟩ := k.2.1 b o hb (fun q => q) e
  rw [e']; exact fun w => nomatch w
theorem Amid.frames (a : Amid P s₀ H₀ s ρ H) (p : P.Ok) : ∀ x ∈ P.env :: P.outer, FrameOk s.heap x := fun x hx => by
  rcases List.mem_cons.mp hx with rfl | hx
  · obtain ⟨h1, o, h2, h3⟩ := a.R.fr.frm p.stk
    exact ⟨⟨by rw [a.R.fr.sc, a.R.fr.kind]; decide, fun L hL => by rw [h1] at hL; cases hL; exact a.R.fr.low⟩, _, o, h1, h2, h3⟩
  · obtain ⟨h1, L, o, h2, h3, h4⟩ := a.held p x hx
    obtain ⟨o', h5, h6, _⟩ := (a.R.keep L o h3).data
    exact ⟨h1, L, o', h2, h5, h6.trans h4⟩
/-- it wakes again -/
theorem Amid.again (a : Amid P s₀ H₀ s ρ H) (p : P.Ok) {H₁ : AHeap} (h1 : ∀ b o, H₁ b = some o → H b = some o) (h2 : ∀ b o, H₁ b = some o → o.fz = true → b = P.ta ∨ b = P.aa) {s'' : Shared} (bk : Back P.X P.outer s s'') :
    Amid P s'' H₁ s'' ρ H₁ := by
  obtain ⟨t, hk, hd, ho, hf⟩ := bk
  have d1 := (a.keep p).dom a.dom
  have R1 := a.R.only h1
  have own1 : ∀ b, Own P.env H₁ b → P.hN.get? b = none := fun b hb => Classical.byContradiction fun q => by
    have e1 := R1.own_old p.ro hb
    have e2 : reHB P.env H₀ s₀.heap b = none := e1
    by_cases w : Own P.env H₀ b
    · exact q (a.own b w)
    · rw [reHB_not w] at e2
      exact a.dom b q e2
  have hx : ∀ b, P.X b → H₁ b = none := fun b hb => by
    cases e : H₁ b with
    | none => rfl
    | some o =>
      cases hz : o.fz with
      | false => exact absurd (own1 b (.inr (.inr ⟨o, e, hz⟩))) (p.x1 b hb)
      | true => exact ((h2 b o e hz).elim (p.x3 b hb).1 (p.x3 b hb).2).elim
  obtain ⟨ok, R⟩ := R1.rebase (X := P.X) a.ok p.ro t hk (fun b hb => ⟨fun w => p.x1 b hb (own1 b w), hx b hb, p.x2 b hb⟩) (ho.trans R1.os)
  exact ⟨d1.trans hd, hf, own1, ok, ⟨ρ, R⟩, R⟩
variable {E T V : Addr} {es : List (Int × Addr)} {td S : List Int}
theorem sub_test {C : Cx} {ρ : Loc} {H : AHeap} {ps : List (Int × Int)} {its : List Int} {ta aa : Addr} (hsc : C.sc = fnS 4) (c : G2I ρ H ps its ta aa E T V es td S) : TT C subT ρ H fun b H' => b = (!td.isEmpty) ∧ H' = H := by
  unfold subT
  refine TT_val (fun env whole => rfl) (TE_name (ld_of hsc rfl) (v := .ref V) (by exact c.w) (TB_set (S := S) (by unfold AHeap.ints; rw [c.hw]; rfl) ⟨?_, rfl⟩))
  rw [show S.isEmpty = td.isEmpty from by rw [Bool.eq_iff_iff, List.isEmpty_iff_length_eq_zero, List.isEmpty_iff_length_eq_zero, c.perm.length_eq]]
/-- what is held at a layer's end, nothing else -/
def slim (H : AHeap) (ta aa E T V : Addr) (es : List (Int × Addr)) : AHeap := fun b => if b ∈ [ta, aa, E, T, V] ++ es.map (·.2) then H b else none
theorem slim_in {H : AHeap} {ta aa E T V b : Addr} {es : List (Int × Addr)} (h : b ∈ [ta, aa, E, T, V] ++ es.map (·.2)) : slim H ta aa E T V es b = H b := if_pos h
theorem slim_sub {H : AHeap} {ta aa E T V b : Addr} {es : List (Int × Addr)} {o : AObj} (h : slim H ta aa E T V es b = some o) : H b = some o ∧ b ∈ [ta, aa, E, T, V] ++ es.map (·.2) := by
  unfold slim at h
  split at h
  · exact ⟨h, by assumption⟩
  · cases h
theorem G2I.slim {ρ : Loc} {H : AHeap} {ps : List (Int × Int)} {its : List Int} {ta aa : Addr} (c : G2I ρ H ps its ta aa E T V es td S) : G2I ρ (slim H ta aa E T V es) ps its ta aa E T V es td S :=
  { c with
    hta := (slim_in (by simp)).trans c.hta, haa := (slim_in (by simp)).trans c.haa
    D := ⟨(slim_in (by simp)).trans c.D.at_, c.D.keysN, c.D.addrN, fun p hp => (slim_in (List.mem_append_right _ (List.mem_map_of_mem hp))).trans (c.D.sets p hp), c.D.off⟩
    ht := (slim_in (by simp)).trans c.ht, hw := (slim_in (by simp)).trans c.hw }
theorem G2I.slim_fz {ρ : Loc} {H : AHeap} {ps : List (Int × Int)} {its : List Int} {ta aa : Addr} (c : G2I ρ H ps its ta aa E T V es td S) {b : Addr} {o : AObj} (h : Mine.slim H ta aa E T V es b = some o) (hz : o.fz = true) : b = ta ∨ b = aa := by
  obtain ⟨e, hm⟩ := slim_sub h
  rcases List.mem_append.mp hm with hm | hm
  · simp only [List.mem_cons, List.not_mem_nil, or_false] at hm
    rcases hm with rfl | rfl | rfl | rfl | rfl
    · exact .inl rfl
    · exact .inr rfl
    · rw [c.D.at_] at e; cases e; cases hz
    · rw [c.ht] at e; cases e; cases hz
    · rw [c.hw] at e; cases e; cases hz
  · obtain ⟨p, hp, rfl⟩ := List.mem_map.mp hm
    rw [c.D.sets p hp] at e; cases e; cases hz
end
end Mine
end
section
open PySem PySem.W PyProof.Rows PySem.SeqAt
open Builtin Builtin.ObjectAttr
set_option maxRecDepth 100000
set_option autoImplicit false
set_option linter.unusedVariables false
namespace Mine
section
variable {P : G2P}
abbrev G2P.M (P : G2P) : Model := model P.B.prog P.B.w
theorem quiet_loop {c : Code} {t : Expr} {b o : List Stmt} {e : Env} (h : c = .whileLoop t b o e) : c.quiet = true := by
  subst h
  first | rfl | decide +kernel | (simp [Code.quiet, Thread.loud, Thread.atCollectorCode, Thread.yieldsInsideHandler])
/-- a generator's loop ends by an exception -/
theorem seg_fail {M : Model} {A : Around} {R : GenEnd} {Y : Protocol} {n : Nat} {s₀ s : Shared} {env : Env} {outer : List Env} {C : Cx} {K : ExcK} {h0 : Heap} {e c d : Addr} {b : List Stmt} {p : Pos} {cd : Code} {nt : Bool} (g : GenCtx C A outer) (hc : cd.envs = [])
    (F : Flying K h0 s.heap e c d nt) (hl : ∀ x ∈ env :: outer, FrameOk s.heap x)
    (h : ∀ h', Stands K h0 s.heap h' → Flying K h0 h' e c d true → (∀ x ∈ env :: outer, FrameOk h' x) → R n s₀ (.error (.ref e)) { s with heap := h' }) :
    Seg M A R Y n s₀ cd (noteH env (.ref e)) [wFrame env b p] s := by
  refine seg_wrap (wpAny_bind (note_ok F (g.fr2 b p hc) List.mem_cons_self hl fun h1 st1 F1 hl1 => wpAny_theTreesLotGoes ?_))
  refine seg_leaf (.error (.ref e)) ?_
  show Seg M A R Y n s₀ (.func b env) (Sem.wrap (wK env) (fH env) id id ((do
      if (← field (.ref e) 1) == Value.none then unsupported "frame.own-activation:exception-without-traceback"
      setFlight (.ref e) env.frame : Sem Unit).bind fun _ => .raise (.ref e))) [] _
  rw [Sem.bind_eq_wrap, Sem.wrap_wrap]
  refine seg_wrap (back_ok (s := { s with heap := h1 }) F1 hl1 fun h2 st2 F2 hl2 => ?_)
  refine seg_wrap (m := leaving env (.ref e)) (K := fun _ => .raise (.ref e)) (H := .raise) (gd := id) (lv := id) (leaving_ok (s := { s with heap := h2 }) F2 (g.fr1 b) List.mem_cons_self hl2 fun h3 st3 F3 hl3 => ?_)
  exact seg_end (.error (.ref e)) (h h3 ((st1.trans st2).trans st3) F3 hl3)
theorem drop_next {α : Type} {LL Ls : List α} {x : α} (h : LL.drop (LL.length - (x :: Ls).length) = x :: Ls) (hl : (x :: Ls).length ≤ LL.length) : LL[LL.length - 1 - Ls.length]? = some x ∧ LL.drop (LL.length - Ls.length) = Ls ∧ Ls.length < LL.length := by
  simp only [List.length_cons] at h hl
  have e1 : LL.length - 1 - Ls.length = LL.length - (Ls.length + 1) := by omega
  refine ⟨?_, ?_, by omega⟩
  · rw [e1]
    have := congrArg List.head? h
    rw [List.head?_drop] at this
    exact this
  · have e2 : LL.length - Ls.length = (LL.length - (Ls.length + 1)) + 1 := by omega
    rw [e2, ← List.drop_drop, h]; rfl
def subC : Expr := match subIf with
  | .If t _ _ _ => t
  | _ => default
def subP : Pos := match subIf with
  | .If _ _ _ p => p
  | _ => default
theorem subIf_eq : subIf = .If subC subR [] subP := rfl
def subYe : Expr := match subY with
  | .Expr (.Yield (some e) _) _ => e
  | _ => default
def subYp : Pos := match subY with
  | .Expr (.Yield (some e) p) _ => p
  | _ => default
def subYq : Pos := match subY with
  | .Expr (.Yield (some e) _) p => p
  | _ => default
theorem subY_eq : subY = .Expr (.Yield (some subYe) subYp) subYq := rfl
def subW : Pos := match (fnB 4)[(4 : Nat)]? with
  | some (.While _ _ _ p) => p
  | _ => default
theorem sub_ask {C : Cx} {ρ : Loc} {H : AHeap} {O : Addr} {xs : List Int} (hsc : C.sc = fnS 4) (r_o : ρ "output" = some (.ref O)) (h_o : H O = some (.list (xs.map .int))) (hl : xs.length < 1000) : TT C subC ρ H fun b H' => b = xs.isEmpty ∧ H' = H := by
  have hsl : sizeLine = 2 ^ 24 := rfl
  unfold subC subIf subB
  refine TT_not (TT_val (fun env whole => rfl) (TE_name (ld_of hsc rfl) (v := .ref O) (by exact r_o) (TB_list (xs := xs.map .int) (by unfold AHeap.items; rw [h_o]; rfl) (by simp; omega) ⟨?_, rfl⟩)))
  cases xs <;> rfl
theorem sub_out {C : Cx} {ρ : Loc} {H : AHeap} {O : Addr} (hsc : C.sc = fnS 4) (r_o : ρ "output" = some (.ref O)) : TE C subYe ρ H fun v H' => v = .ref O ∧ H' = H := by
  unfold subYe subY subB
  exact TE_name (ld_of hsc rfl) (v := .ref O) (by exact r_o) ⟨rfl, rfl⟩
theorem g2_loop (p : P.Ok) {td : List Int} {Ls : List (List Int)} {bad : Bool} (L : Lays P.ps td Ls bad) (hbad : bad = P.bad) : ∀ {s₀ s : Shared} {H₀ H : AHeap} {ρ : Loc} {E T V : Addr} {es : List (Int × Addr)} {S : List Int} {ps : Pos}, Amid P s₀ H₀ s ρ H → G2I ρ H P.ps P.its P.ta P.aa E T V es td S →
    P.LL.drop (P.LL.length - Ls.length) = Ls → Ls.length ≤ P.LL.length →
    Seg P.M P.A P.R P.Y Ls.length s₀ (.whileLoop subT subB [] P.env) (P.M.den (.whileLoop subT subB [] P.env)) [wFrame P.env (fnB 4) ps] s := by
  induction L with
  | done =>
    intro s₀ s H₀ H ρ E T V es S ps a c hd hle
    have pc : GenCtx (P.C H₀ s₀) P.A P.outer := ⟨p.ctx.handled, p.ctx.frames, p.ctx.depth, p.ctx.units⟩
    have ok := pc.loop (C := P.C H₀ s₀) (env := P.env) (fnB 4) ps (a.held p) (c := .whileLoop subT subB [] P.env) rfl rfl rfl
    refine seg_whileLoop (wpAny_mono (sub_test (C := P.C H₀ s₀) p.sc c _ P.env s ok a.R) (fun b s₁ ⟨t₁, H₁, R₁, hb, hH⟩ => ?_) fun _ _ x => x.elim)
    subst hb; subst hH
    rw [if_neg (by decide)]
    refine seg_leaf (.ok .next) ?_
    exact seg_end (.ok (.ret .none)) ⟨(a.step R₁).keep p, R₁.gens, rfl, .inl ⟨hbad.symm, rfl⟩⟩
  | @stuck td hne hl =>
    intro s₀ s H₀ H ρ E T V es S ps a c hd hle
    have pc : GenCtx (P.C H₀ s₀) P.A P.outer := ⟨p.ctx.handled, p.ctx.frames, p.ctx.depth, p.ctx.units⟩
    have ok := pc.loop (C := P.C H₀ s₀) (env := P.env) (fnB 4) ps (a.held p) (c := .whileLoop subT subB [] P.env) rfl rfl rfl
    refine seg_whileLoop (wpAny_mono (sub_test (C := P.C H₀ s₀) p.sc c _ P.env s ok a.R) (fun b s₁ ⟨t₁, H₁, R₁, hb, hH⟩ => ?_) fun _ _ x => x.elim)
    subst hb; subst hH
    have htd : td.isEmpty = false := by cases td with | nil => exact absurd rfl hne | cons _ _ => rfl
    rw [htd, if_pos (show (!false) = true from rfl), show execs subB P.env = execs (subB.take 2 ++ (subIf :: ((subB.drop 3).take 2 ++ [subY]))) P.env from congrArg (execs · P.env) subB_eq, execs_append_wrap]
    refine seg_wrap (wpAny_mono (sub_output (C := P.C H₀ s₀) a.ok p.sc p.ro c _ P.env s₁ ok R₁) (fun f s₂ ⟨af, ρ₂, H₂, hf, R₂, e, O, es', c₂, r_o, h_o⟩ => ?_) fun _ _ x => x.elim)
    subst e
    obtain rfl := hf
    refine seg_execs_cons (seg_wrap ?_)
    have l5 := le5 c.nod c.low
    have lay := List.length_filter_le (freeB P.ps td) td
    have ask := sub_ask (C := P.C H₀ s₀) (xs := layerOf P.ps td) p.sc r_o h_o (by unfold layerOf; omega)
    rw [subIf_eq]
    refine wpAny_If (wpAny_mono (ask _ P.env s₂ ok R₂) (fun b s₃ ⟨t₃, H₃, R₃, hb, hH⟩ => ?_) fun _ _ x => x.elim)
    subst hb; subst hH
    rw [hl, if_pos (by rfl)]
    have a₃ := a.step R₃
    refine wpAny_mono (sub_raise (C := P.C H₀ s₀) (K := P.K) p.fs a.ok p.sc p.ro p.exc p.excG p.room c₂ p.len p.inn p.cnt ok R₃) (fun _ _ x => x.elim) fun x s₄ hx => ?_
    obtain ⟨e, cc, d, H', Sc, Sd, s₅, o, tu, rfl, R₅, x₅, hg₅, ho₅, hne, g1, g2, g3, g4, he, hdx, hcl, hdt, hI⟩ := hx
    have R₄ : SRep (P.C H₀ s₀) P.env ρ₂ H' s₄ := R₅.ext x₅ (hg₅ ▸ R₅.gens) ho₅
    have a₅ := a.step R₅
    have a₄ := a.step R₄
    have k₄ := a₄.keep p
    have d₄ := k₄.dom a.dom
    have d₅ := (a₅.keep p).dom a.dom
    have F : Flying P.K P.hN s₄.heap e cc d false := ⟨d₄, Classical.byContradiction fun q => d₅ e q hne, hI, (fun o0 dx g0 hd0 => by rw [he] at g0; cases g0; exact Classical.byContradiction fun q => d₅ dx q (hdx dx hd0)), o, _, he, hcl, hdt, rfl, rfl, .inl ⟨rfl, rfl⟩⟩
    have nnew : ∀ b o, H' b = some o → o.fz = false → P.hN.get? b = none := fun b o hb hz => by
      have e2 : reHB P.env H₀ s₀.heap b = none := R₄.own_old p.ro (.inr (.inr ⟨o, hb, hz⟩))
      refine Classical.byContradiction fun q => ?_
      by_cases w : Own P.env H₀ b
      · exact q (a.own b w)
      · rw [reHB_not w] at e2; exact a.dom b q e2
    refine seg_fail pc rfl F (a₄.frames p) fun h' st F' hl' => ?_
    obtain ⟨⟨lc, i1, i2⟩, _⟩ := R₄.hp cc _ g1
    obtain ⟨⟨ld, j1, j2⟩, _⟩ := R₄.hp d _ g3
    refine ⟨⟨k₄.1.trans st.text, fun b ob hb _ hob => (k₄.2.1 b ob hb (fun q => q) hob).trans fun o' ho' => st b o' ho' (.inl hb), k₄.2.2⟩, R₄.gens, rfl, .inr ⟨hbad.symm, e, rfl, ⟨cc, d, lc, ld, F', ⟨nnew cc _ g1 rfl, nnew d _ g3 rfl⟩, st.iset i1, fun x => (i2.mem_iff).trans (g2 x), st.pset j1, fun q => (j2.mem_iff).trans (g4 q)⟩, ?_, fun x hx => hl' x (List.mem_cons_of_mem _ hx)⟩⟩
    exact p.exc.k fun b ob hob => (R₄.st a.ok b ob hob).trans fun o' ho' => st b o' ho' (.inl (p.gbN b (by rw [hob]; exact fun w => nomatch w)))
  | @step td Ls bad hne hl L ih =>
    intro s₀ s H₀ H ρ E T V es S ps a c hd hle
    have pc : GenCtx (P.C H₀ s₀) P.A P.outer := ⟨p.ctx.handled, p.ctx.frames, p.ctx.depth, p.ctx.units⟩
    have ok := pc.loop (C := P.C H₀ s₀) (env := P.env) (fnB 4) ps (a.held p) (c := .whileLoop subT subB [] P.env) rfl rfl rfl
    refine seg_whileLoop (wpAny_mono (sub_test (C := P.C H₀ s₀) p.sc c _ P.env s ok a.R) (fun b s₁ ⟨t₁, H₁, R₁, hb, hH⟩ => ?_) fun _ _ x => x.elim)
    subst hb; subst hH
    have htd : td.isEmpty = false := by cases td with | nil => exact absurd rfl hne | cons _ _ => rfl
    rw [htd, if_pos (show (!false) = true from rfl), show execs subB P.env = execs (subB.take 2 ++ (subIf :: ((subB.drop 3).take 2 ++ [subY]))) P.env from congrArg (execs · P.env) subB_eq, execs_append_wrap]
    refine seg_wrap (wpAny_mono (sub_output (C := P.C H₀ s₀) a.ok p.sc p.ro c _ P.env s₁ ok R₁) (fun f s₂ ⟨af, ρ₂, H₂, hf, R₂, e, O, es', c₂, r_o, h_o⟩ => ?_) fun _ _ x => x.elim)
    subst e
    obtain rfl := hf
    refine seg_execs_cons (seg_wrap ?_)
    have l5 := le5 c.nod c.low
    have lay := List.length_filter_le (freeB P.ps td) td
    have ask := sub_ask (C := P.C H₀ s₀) (xs := layerOf P.ps td) p.sc r_o h_o (by unfold layerOf; omega)
    rw [subIf_eq]
    refine wpAny_If (wpAny_mono (ask _ P.env s₂ ok R₂) (fun b s₃ ⟨t₃, H₃, R₃, hb, hH⟩ => ?_) fun _ _ x => x.elim)
    subst hb; subst hH
    rw [show (layerOf P.ps td).isEmpty = false from by cases q : layerOf P.ps td with | nil => exact absurd q hl | cons _ _ => rfl, if_neg (by decide)]
    refine wpAny_execs_nil ?_
    show Seg _ _ _ _ _ _ _ (Sem.wrap _ _ _ _ (execs ((subB.drop 3).take 2 ++ [subY]) P.env)) _ _
    rw [execs_append_wrap]
    refine seg_wrap (wpAny_mono (sub_rest (C := P.C H₀ s₀) a.ok p.sc p.ro c₂ r_o h_o _ P.env s₃ ok R₃) (fun f s₄ ⟨af, ρ₄, H₄, hf, R₄, e, T', S', c₄, r_o', h_o'⟩ => ?_) fun _ _ x => x.elim)
    subst e
    obtain rfl := hf
    obtain ⟨q1, q2, q3⟩ := drop_next hd hle
    refine seg_execs_cons ?_
    rw [subY_eq]
    refine seg_Expr_Yield (by rfl) rfl rfl (wpAny_mono (sub_out (C := P.C H₀ s₀) p.sc r_o' _ P.env s₄ ok R₄) (fun v s₅ ⟨t₅, av, H₅, hv, R₅, e1, e2⟩ => ?_) fun _ _ x => x.elim) (by rw [R₄.fr.sc]; show Scope.isCoroutine P.B.sc = false; rw [p.sc]; rfl) (by unfold interactive; rw [R₄.fr.sc, R₄.fr.kind]; rfl)
    subst e1; subst e2
    obtain rfl := hv
    intro kap hkap
    have a₅ := a.step R₅
    refine ⟨layerOf P.ps td, O, q1, q3, rfl, ?_, (R₅.hp O _ h_o').1, a₅.keep p, R₅.gens, fun s'' bk => hkap _ _ ?_⟩
    · have := a₅.R.own_old p.ro (.inr (.inr ⟨_, h_o', rfl⟩))
      have e2 : reHB P.env H₀ s₀.heap O = none := this
      refine Classical.byContradiction fun q => ?_
      by_cases w : Own P.env H₀ O
      · exact q (a.own O w)
      · rw [reHB_not w] at e2; exact a.dom O q e2
    · have a₆ := a₅.again p (H₁ := slim H₅ P.ta P.aa E T' V es') (fun b o h => (slim_sub h).1) (fun b o h hz => c₄.slim_fz h hz) bk
      refine seg_again (quiet_loop rfl) ?_
      exact ih hbad a₆ c₄.slim q2 (by omega)
/-- the whole of it -/
theorem g2_whole (p : P.Ok) (L : Lays P.ps P.its P.LL P.bad) {s : Shared} {H : AHeap} {ρ : Loc} (hd : Dom P.hN s.heap) (hf : ∀ e ∈ P.outer, FrameOk s.heap e) (hown : ∀ b, Own P.env H b → P.hN.get? b = none) (hok : (P.C H s).Ok) (R : SRep (P.C H s) P.env ρ H s)
    (ht : ρ "tuples" = some (.ref P.ta)) (ha : ρ "allitems" = some (.ref P.aa)) (hT : H P.ta = some (.ro (P.ps.map .pair))) (hA : H P.aa = some (.ro (P.its.map .int))) (hit : ∀ x ∈ P.its, 0 ≤ x ∧ x < 5) (hnd : P.its.Nodup) :
    Seg P.M P.A P.R P.Y P.LL.length s (.func (fnB 4) P.env) (P.M.den (.func (fnB 4) P.env)) [] s := by
  have a : Amid P s H s ρ H := ⟨hd, hf, hown, hok, ⟨ρ, R⟩, R⟩
  have pc : GenCtx (P.C H s) P.A P.outer := ⟨p.ctx.handled, p.ctx.frames, p.ctx.depth, p.ctx.units⟩
  have ok := pc.func (C := P.C H s) (env := P.env) (fnB 4) (a.held p)
  refine seg_func ?_
  rw [show execs (fnB 4) P.env = execs ((fnB 4).take 4 ++ [.While subT subB [] subW]) P.env from rfl, execs_append_wrap]
  refine seg_wrap (wpAny_mono (sub_prelude (C := P.C H s) p.fs hok p.sc p.ro ht ha hT hA p.len p.inn hit hnd _ P.env s ok R) (fun f s₁ ⟨af, ρ₁, H₁, hf, R₁, e, E, T, V, es, S, c⟩ => ?_) fun _ _ x => x.elim)
  subst e
  obtain rfl := hf
  refine seg_execs_cons (seg_While fun ps => ?_)
  exact g2_loop p L rfl (a.step R₁) c (by simp) (Nat.le_refl _)
end
end Mine
end
section
open PySem PySem.W PyProof.Rows PySem.SeqAt
open Builtin Builtin.ObjectAttr
set_option maxRecDepth 100000
set_option autoImplicit false
set_option linter.unusedVariables false
namespace Mine
/-- sort's generator: what is given -/
structure G1P where
  B : Cx
  env : Env
  A : Around
  outer : List Env
  hN : Heap
  X : Addr → Prop
  K : ExcK
  ps : List (Int × Int)
  its : List Int
  ta : Addr
  aa : Addr
  LL : List (List Int)
  bad : Bool
  H : AHeap
  g : Nat
structure G1P.Ok (P : G1P) : Prop where
  sc : P.B.sc = fnS 5
  ro : P.B.ro = false
  stk : P.B.stk = true
  fs : Fns P.B.G P.B.gb
  exc : ExcIn P.K P.B.gb
  excG : P.B.G "CircularDependencyError" = some (.ref P.K.C)
  subs : ∃ f, P.B.G "sort_as_subsets" = some f ∧ FnAt P.B.gb f 4 ["tuples", "allitems"]
  room : 8 < P.B.room
  ctx : GenCtx P.B P.A P.outer
  outs : ∀ e ∈ P.outer, ∀ L, e.frame = some L → P.hN.get? L ≠ none ∧ ¬ Own P.env P.H L
  x1 : ∀ b, P.X b → P.hN.get? b ≠ none
  x2 : ∀ b, P.X b → P.B.gb.get? b = none
  x3 : ∀ b, P.X b → ¬ Own P.env P.H b ∧ P.H b = none
  gbN : Dom P.B.gb P.hN
  hfz : ∀ b o, P.H b = some o → o.fz = true ∧ P.hN.get? b ≠ none
  hta : P.H P.ta = some (.ro (P.ps.map .pair))
  haa : P.H P.aa = some (.ro (P.its.map .int))
  own : ∀ b, Own P.env P.H b → P.hN.get? b ≠ none
  len : P.ps.length < 100
  inn : ∀ p ∈ P.ps, (0 ≤ p.1 ∧ p.1 < 5) ∧ 0 ≤ p.2 ∧ p.2 < 5
  cnt : ∀ ks : List Int, ks.Nodup → (ks.map fun x => (par P.ps x).length).sum < 12
  hit : ∀ x ∈ P.its, 0 ≤ x ∧ x < 5
  hnd : P.its.Nodup
  lays : Lays P.ps P.its P.LL P.bad
def grow (a b : Array GenState) : Prop := a.size ≤ b.size ∧ (AllBare a → AllBare b)
theorem grow.refl (a : Array GenState) : grow a a := ⟨Nat.le_refl _, id⟩
theorem grow.trans {a b c : Array GenState} (x : grow a b) (y : grow b c) : grow a c := ⟨Nat.le_trans x.1 y.1, y.2 ∘ x.2⟩
theorem grow.push {a : Array GenState} {x : GenState} (h : x.bare = true) : grow a (a.push x) := ⟨by simp, fun k => k.push h⟩
theorem grow.set {s : Shared} {g : Nat} {x : GenState} (h : x.bare = true) : grow s.gens (s.setGen g x).gens := ⟨by show _ ≤ (s.gens.setIfInBounds g x).size; simp, fun k y hy => by
  have hy' : y ∈ s.gens.setIfInBounds g x := hy
  obtain ⟨i, hi⟩ := Array.mem_iff_getElem?.mp hy'
  rw [Array.getElem?_setIfInBounds] at hi
  split at hi
  · split at hi
    · cases hi; exact h
    · cases hi
  · exact k y (Array.mem_of_getElem? hi)⟩
def G1P.R (P : G1P) : GenEnd := fun m s₀ r s' => KeepN P.hN (Own P.env P.H) s₀ s' ∧ grow s₀.gens s'.gens ∧ m = 0 ∧
  ((P.bad = false ∧ r = .ok (.ret .none)) ∨ (P.bad = true ∧ ∃ e, r = .error (.ref e) ∧ Told P.K P.B.w P.hN P.ps s'.heap e ∧ ExcIn P.K s'.heap ∧ ∀ x ∈ P.outer, FrameOk s'.heap x))
def G1P.Y (P : G1P) : Protocol := fun m s₀ v s' kap => ∃ x t, P.LL.flatten[P.LL.flatten.length - 1 - m]? = some x ∧ m < P.LL.flatten.length ∧ v = .int x t ∧ KeepN P.hN (Own P.env P.H) s₀ s' ∧ grow s₀.gens s'.gens ∧
  ∀ s'', Back P.X P.outer s' s'' → (∀ i, i ≠ P.g → s''.gens[i]? = s'.gens[i]?) → kap (.send .none) s''
abbrev G1P.M (P : G1P) : Model := model P.B.prog P.B.w
noncomputable abbrev G1P.C (P : G1P) (s : Shared) : Cx := P.B.re P.env P.H s
/-- amid a run -/
structure Amid1 (P : G1P) (s₀ s : Shared) (ρ : Loc) : Prop where
  keep : KeepN P.hN (Own P.env P.H) s₀ s
  dom : Dom P.hN s.heap
  fr : ∀ e ∈ P.outer, FrameOk s.heap e
  ok : (P.C s).Ok
  R : SRep (P.C s) P.env ρ P.H s
  gr : grow s₀.gens s.gens
theorem Kept.same {h h' : Heap} {b : Addr} {o : Obj} (k : Kept h' b o) (e : o.cls = .type "frame") : ∃ o', h'.get? b = some o' ∧ o'.cls = .type "frame" :=
  let ⟨o', a, c, _⟩ := k.data; ⟨o', a, c.trans e⟩
theorem KeepN.trans {hN : Heap} {X : Addr → Prop} {a b c : Shared} (x : KeepN hN X a b) (y : KeepN hN X b c) : KeepN hN X a c :=
  ⟨x.1.trans y.1, fun p o h1 h2 h3 => (x.2.1 p o h1 h2 h3).trans fun o' => y.2.1 p o' h1 h2, y.2.2.trans x.2.2⟩
theorem KeepN.refl {hN : Heap} {X : Addr → Prop} {a : Shared} : KeepN hN X a a := ⟨TExt.refl _, fun _ _ _ _ => .of, rfl⟩
theorem KeepN.less {hN hN' : Heap} {X X' : Addr → Prop} {a b : Shared} (x : KeepN hN X a b) (h : Dom hN' hN) (hx : ∀ p, X p → X' p) : KeepN hN' X' a b :=
  ⟨x.1, fun p o h1 h2 => x.2.1 p o (h p h1) fun q => h2 (hx p q), x.2.2⟩
section
variable {P : G1P} {s₀ s s' : Shared} {ρ ρ' : Loc}
theorem Amid1.held (a : Amid1 P s₀ s ρ) (p : P.Ok) : ∀ e ∈ P.outer, Held (P.C s) e := fun e he => by
  obtain ⟨h1, L, o, h2, h3, h4⟩ := a.fr e he
  refine ⟨h1, L, o, h2, ?_, h4⟩
  show reHB P.env P.H s.heap L = some o
  rw [reHB_not (p.outs e he L h2).2]
  exact h3
theorem Amid1.frames (a : Amid1 P s₀ s ρ) (p : P.Ok) : ∀ x ∈ P.env :: P.outer, FrameOk s.heap x := fun x hx => by
  rcases List.mem_cons.mp hx with rfl | hx
  · obtain ⟨h1, o, h2, h3⟩ := a.R.fr.frm p.stk
    exact ⟨⟨by rw [a.R.fr.sc, a.R.fr.kind]; decide, fun L hL => by rw [h1] at hL; cases hL; exact a.R.fr.low⟩, _, o, h1, h2, h3⟩
  · exact a.fr x hx
/-- a step of its own -/
theorem Amid1.step (a : Amid1 P s₀ s ρ) (p : P.Ok) (R : SRep (P.C s) P.env ρ' P.H s') (t : TExt s.heap s'.heap) :
    Amid1 P s₀ s' ρ' ∧ (∀ b o, ¬ Own P.env P.H b → s.heap.get? b = some o → Kept s'.heap b o) ∧ s'.gens = s.gens ∧ s'.os = s.os := by
  have kp : ∀ b o, ¬ Own P.env P.H b → s.heap.get? b = some o → Kept s'.heap b o := fun b o hb e => R.keep b o (by show reHB P.env P.H s.heap b = _; rw [reHB_not hb]; exact e)
  have os : s'.os = s.os := R.os.trans a.R.os.symm
  have gs : s'.gens = s.gens := R.gens
  obtain ⟨ok, R'⟩ := R.rebase (X := fun _ => False) (s' := s') a.ok p.ro (TExt.refl _) (fun b o _ => .of) (fun b q => q.elim) R.os
  refine ⟨⟨a.keep.trans ⟨t, fun b o _ => kp b o, os⟩, fun b hb => ?_, fun e he => ?_, ok, R', by rw [gs]; exact a.gr⟩, kp, gs, os⟩
  · by_cases q : Own P.env P.H b
    · rcases q with rfl | ⟨w, hw, rfl⟩ | ⟨o, h1, h2⟩
      · obtain ⟨m, hn, _⟩ := R.fr.ns
        obtain ⟨o, _, _, ho, _⟩ := hn
        rw [ho]; exact fun w => nomatch w
      · obtain ⟨v, o, ho, _⟩ := R.fr.cin w hw
        rw [ho]; exact fun w => nomatch w
      · rw [(p.hfz b o h1).1] at h2; cases h2
    · obtain ⟨o, e⟩ := Option.ne_none_iff_exists'.mp (a.dom b hb)
      obtain ⟨o', e', _⟩ := kp b o q e
      rw [e']; exact fun w => nomatch w
  · exact (a.fr e he).elim fun h1 ⟨L, o, h2, h3, h4⟩ => by
      obtain ⟨o', h5, h6⟩ := (kp L o (p.outs e he L h2).2 h3).same (h := s.heap) h4
      exact ⟨h1, L, o', h2, h5, h6⟩
/-- others' doing, off what stood at first -/
theorem Amid1.move (a : Amid1 P s₀ s ρ) (p : P.Ok) {Z : Addr → Prop} (hZ : ∀ b, Z b → P.hN.get? b = none) (t : TExt s.heap s'.heap) (hk : ∀ b o, ¬ Z b → s.heap.get? b = some o → Kept s'.heap b o) (ho : s'.os = s.os) (hg : grow s.gens s'.gens) : Amid1 P s₀ s' ρ := by
  have kn : ∀ b o, P.hN.get? b ≠ none → s.heap.get? b = some o → Kept s'.heap b o := fun b o hb => hk b o fun q => hb (hZ b q)
  have zH : ∀ b, Z b → P.H b = none := fun b q => by
    cases e : P.H b with
    | none => rfl
    | some o => exact absurd (hZ b q) (p.hfz b o e).2
  have zG : ∀ b, Z b → P.B.gb.get? b = none := fun b q => Classical.byContradiction fun w => p.gbN b w (hZ b q)
  obtain ⟨ok, R⟩ := a.R.rebase (X := Z) a.ok p.ro t hk (fun b q => ⟨fun w => p.own b w (hZ b q), zH b q, zG b q⟩) (ho.trans a.R.os)
  · refine ⟨a.keep.trans ⟨t, fun b o hb _ => kn b o hb, ho⟩, fun b hb => ?_, fun e he => ?_, ok, R, a.gr.trans hg⟩
    · obtain ⟨o, e⟩ := Option.ne_none_iff_exists'.mp (a.dom b hb)
      obtain ⟨o', e', _⟩ := kn b o hb e
      rw [e']; exact fun w => nomatch w
    · obtain ⟨h1, L, o, h2, h3, h4⟩ := a.fr e he
      obtain ⟨o', h5, h6⟩ := (kn L o (p.outs e he L h2).1 h3).same (h := s.heap) h4
      exact ⟨h1, L, o', h2, h5, h6⟩
/-- it wakes again -/
theorem Amid1.again (a : Amid1 P s₀ s ρ) (p : P.Ok) (bk : Back P.X P.outer s s') : Amid1 P s' s' ρ := by
  obtain ⟨t, hk, hd, ho, hf⟩ := bk
  obtain ⟨ok, R⟩ := a.R.rebase (X := P.X) a.ok p.ro t hk (fun b q => ⟨(p.x3 b q).1, (p.x3 b q).2, p.x2 b q⟩) (ho.trans a.R.os)
  exact ⟨KeepN.refl, a.dom.trans hd, hf, ok, R, grow.refl _⟩
end
end Mine
end
section
open PySem PySem.W PyProof.Rows PySem.SeqAt
open Builtin Builtin.ObjectAttr
set_option maxRecDepth 100000
set_option autoImplicit false
set_option linter.unusedVariables false
namespace Mine
/-- a heap with some of its objects left out -/
theorem hidden (h : Heap) : ∀ L : List Addr, ∃ h' : Heap, ∀ b, h'.get? b ≠ none ↔ h.get? b ≠ none ∧ b ∉ L
  | [] => ⟨h, fun b => by simp⟩
  | a :: L => by
    obtain ⟨h', hh⟩ := hidden h L
    refine ⟨h'.update a fun _ => { cls := .none, data := .freed }, fun b => ?_⟩
    by_cases e : b = a
    · subst e
      constructor
      · intro q
        refine absurd ?_ q
        cases e1 : (h'.update b fun _ => ({ cls := .none, data := .freed } : Obj)).get? b with
        | none => rfl
        | some o =>
          have h3 := Heap.get?_some_iff.mp e1
          have h4 : (h'.objs.modify b fun _ => ({ cls := .none, data := .freed } : Obj))[b]? = some o := h3.1
          rw [Array.getElem?_modify, if_pos rfl] at h4
          cases e2 : h'.objs[b]? with
          | none => rw [e2] at h4; cases h4
          | some o' =>
            rw [e2] at h4
            have h5 := Option.some.inj h4
            have := h3.2
            rw [← h5] at this
            exact absurd (show (true : Bool) = false from this) (by decide)
      · rintro ⟨_, q⟩; exact absurd List.mem_cons_self q
    · rw [Heap.get?_update_other _ _ (Ne.symm e), hh]
      simp [e]
def srtT : Expr := match (fnB 5)[(0 : Nat)]? with
  | some (.For t _ _ _ _) => t
  | _ => default
def srtI : Expr := match (fnB 5)[(0 : Nat)]? with
  | some (.For _ i _ _ _) => i
  | _ => default
def srtB : List Stmt := match (fnB 5)[(0 : Nat)]? with
  | some (.For _ _ b _ _) => b
  | _ => []
def srtP : Pos := match (fnB 5)[(0 : Nat)]? with
  | some (.For _ _ _ _ p) => p
  | _ => default
theorem fnB5_eq : fnB 5 = [.For srtT srtI srtB [] srtP] := rfl
/-- the generator within -/
def G1P.sub (P : G1P) (env2 : Env) (hN2 : Heap) (G : Addr) (pp : Pos) : G2P where
  B := { P.B with sc := fnS 4, room := P.B.room - 1, ro := false }
  env := env2
  A := (P.A.over (.forLoop srtT (.ref G) srtB [] P.env) [wFrame P.env (fnB 5) pp]).in1
  outer := P.env :: P.outer
  hN := hN2
  X := fun b => P.X b ∨ Own P.env P.H b
  K := P.K
  ps := P.ps
  its := P.its
  ta := P.ta
  aa := P.aa
  LL := P.LL
  bad := P.bad
theorem Back.refl {X : Addr → Prop} {stk : List Env} {s : Shared} (h : ∀ e ∈ stk, FrameOk s.heap e) : Back X stk s s := ⟨TExt.refl _, fun b o _ => .of, fun _ => id, rfl, h⟩
theorem Back.heap {X : Addr → Prop} {stk : List Env} {s s' s'' : Shared} (x : Back X stk s s') (h : s''.heap = s'.heap) (o : s''.os = s'.os) : Back X stk s s'' := by
  obtain ⟨a, b, c, d, e⟩ := x
  refine ⟨by rw [h]; exact a, by rw [h]; exact b, by rw [h]; exact c, o.trans d, by rw [h]; exact e⟩
theorem IsGen.k {h h' : Heap} {a : Addr} {g : Nat} (x : h.IsGen a g) (k : ∀ o, h.get? a = some o → Kept h' a o) : h'.IsGen a g := by
  obtain ⟨o, nm, qn, ho, hc, r⟩ := x
  exact ⟨o, nm, qn, (k o ho).exact (by rw [hc]; exact fun q => absurd (Value.type.inj q) (by decide)), hc, r⟩
/-- the loop over the layers: j of them to come -/
structure Loop1 (P : G1P) (P2 : G2P) (G g2 j : Nat) (sy : Shared) (gs : GenState) (s₀ s : Shared) (ρ : Loc) : Prop where
  a : Amid1 P s₀ s ρ
  d2 : Dom P2.hN s.heap
  gen : s.heap.IsGen G g2
  at_ : s.gens[g2]? = some gs
  rd : ∀ s'', Back P2.X P2.outer sy s'' → gs.Goes P2.M P2.A P2.R P2.Y j (.send .none) s''
  bk : Back P2.X P2.outer sy s
section
variable {P : G1P} {env2 : Env} {hN2 : Heap} {G : Addr} {g2 j : Nat} {pp : Pos} {sy s₀ s s' : Shared} {gs : GenState} {ρ ρ' : Loc}
theorem Loop1.move (L : Loop1 P (P.sub env2 hN2 G pp) G g2 j sy gs s₀ s ρ) (p : P.Ok) (hd : Dom P.hN hN2) {Z : Addr → Prop} (hZ : ∀ b, Z b → hN2.get? b = none ∧ sy.heap.get? b = none ∧ b ≠ G) (t : TExt s.heap s'.heap) (hk : ∀ b o, ¬ Z b → s.heap.get? b = some o → Kept s'.heap b o) (ho : s'.os = s.os)
    (hg : grow s.gens s'.gens) (hg2 : s'.gens[g2]? = s.gens[g2]?) : Loop1 P (P.sub env2 hN2 G pp) G g2 j sy gs s₀ s' ρ := by
  have a' := L.a.move p (Z := Z) (fun b q => Classical.byContradiction fun w => hd b w (hZ b q).1) t hk ho hg
  have dm : ∀ b, ¬ Z b → s.heap.get? b ≠ none → s'.heap.get? b ≠ none := fun b nz q => by
    obtain ⟨o, e⟩ := Option.ne_none_iff_exists'.mp q
    obtain ⟨o', e', _⟩ := hk b o nz e
    rw [e']; exact fun w => nomatch w
  obtain ⟨b1, b2, b3, b4, b5⟩ := L.bk
  refine ⟨a', fun b q => dm b (fun z => q (hZ b z).1) (L.d2 b q), IsGen.k L.gen fun o => hk G o fun z => (hZ G z).2.2 rfl, hg2.trans L.at_, L.rd, b1.trans t, fun b o nx e => ?_, fun b q => dm b (fun z => q (hZ b z).2.1) (b3 b q), ho.trans b4, a'.frames p⟩
  exact (b2 b o nx e).trans fun o' => hk b o' fun z => by rw [(hZ b z).2.1] at e; cases e
theorem Loop1.step (L : Loop1 P (P.sub env2 hN2 G pp) G g2 j sy gs s₀ s ρ) (p : P.Ok) (hGo : ¬ Own P.env P.H G) (R : SRep (P.C s) P.env ρ' P.H s') (t : TExt s.heap s'.heap) : Loop1 P (P.sub env2 hN2 G pp) G g2 j sy gs s₀ s' ρ' := by
  obtain ⟨a', kp, hg, ho⟩ := L.a.step p R t
  have dm : Dom s.heap s'.heap := fun b q => by
    by_cases w : Own P.env P.H b
    · exact a'.dom b (p.own b w)
    · obtain ⟨o, e⟩ := Option.ne_none_iff_exists'.mp q
      obtain ⟨o', e', _⟩ := kp b o w e
      rw [e']; exact fun w => nomatch w
  obtain ⟨b1, b2, b3, b4, b5⟩ := L.bk
  exact ⟨a', L.d2.trans dm, IsGen.k L.gen fun o => kp G o hGo, by rw [hg]; exact L.at_, L.rd, b1.trans t, fun b o nx e => (b2 b o nx e).trans fun o' => kp b o' fun w => nx (.inr w), b3.trans dm, ho.trans b4, a'.frames p⟩
theorem Loop1.again (L : Loop1 P (P.sub env2 hN2 G pp) G g2 j sy gs s₀ s ρ) (p : P.Ok) (hG : ¬ P.X G) (hne : g2 ≠ P.g) (bk : Back P.X P.outer s s') (hg : ∀ i, i ≠ P.g → s'.gens[i]? = s.gens[i]?) : Loop1 P (P.sub env2 hN2 G pp) G g2 j sy gs s' s' ρ := by
  have a' := L.a.again p bk
  obtain ⟨t, hk, hd, ho, hf⟩ := bk
  obtain ⟨b1, b2, b3, b4, b5⟩ := L.bk
  exact ⟨a', L.d2.trans hd, IsGen.k L.gen fun o => hk G o hG, (hg g2 hne).trans L.at_, L.rd, b1.trans t, fun b o nx e => (b2 b o nx e).trans fun o' => hk b o' fun w => nx (.inl w), b3.trans hd, ho.trans b4, a'.frames p⟩
end
end Mine
end
section
open PySem PySem.W PyProof.Rows PySem.SeqAt
open Builtin Builtin.ObjectAttr
set_option maxRecDepth 100000
set_option autoImplicit false
set_option linter.unusedVariables false
namespace Mine
def srtYe : Expr := match srtB with
  | [.Expr (.YieldFrom e _) _] => e
  | _ => default
def srtYp : Pos := match srtB with
  | [.Expr (.YieldFrom _ p) _] => p
  | _ => default
def srtYq : Pos := match srtB with
  | [.Expr (.YieldFrom _ _) p] => p
  | _ => default
theorem srtB_eq : srtB = [.Expr (.YieldFrom srtYe srtYp) srtYq] := rfl
theorem Heap.IsListIter.k {h h' : Heap} {I a : Addr} {i : Nat} (x : h.IsListIter I a i) (k : ∀ o, h.get? I = some o → Kept h' I o) : h'.IsListIter I a i := by
  obtain ⟨o, ho, hc, hd⟩ := x
  exact ⟨o, (k o ho).exact (by rw [hc]; exact fun q => absurd (Value.type.inj q) (by decide)), hc, hd⟩
theorem LRep.k {h h' : Heap} {a : Addr} {xs : List AV} (x : LRep h a xs) (t : TExt h h') (k : ∀ o, h.get? a = some o → Kept h' a o) : LRep h' a xs := by
  obtain ⟨vs, n, g, r⟩ := x
  exact ⟨vs, n, (k _ g).exact (by show (Value.type "list") ≠ _; exact fun q => absurd (Value.type.inj q) (by decide)), r.t t⟩
theorem drop_at {α : Type} {FL r : List α} {x : α} {n : Nat} (h : FL.drop (FL.length - (n + 1)) = x :: r) (hn : r.length = n) (hl : n + 1 ≤ FL.length) : FL[FL.length - 1 - n]? = some x ∧ FL.drop (FL.length - n) = r ∧ n < FL.length := by
  have := drop_next (LL := FL) (Ls := r) (x := x) (by rw [List.length_cons, hn]; exact h) (by rw [List.length_cons, hn]; exact hl)
  rw [hn] at this; exact this
section
variable {P : G1P} {env2 : Env} {hN2 : Heap} {G : Addr} {g2 j : Nat} {pp : Pos} {sy : Shared} {gs : GenState}
theorem g1_yf (p : P.Ok) (hd : Dom P.hN hN2) (hG : ¬ P.X G) (hne : g2 ≠ P.g) {I a : Addr} {xs rest : List Int} {k : Result → Sem Fin} {h g lv p2 kp} (hI1 : hN2.get? I = none) (hI2 : sy.heap.get? I = none) (hI3 : I ≠ G) (ha : hN2.get? a = none) (haI : a ≠ I) (hh : h = none) (hgf : g = false)
    (next : ∀ s₀ s ρ, Loop1 P (P.sub env2 hN2 G pp) G g2 j sy gs s₀ s ρ → Seg P.M P.A P.R P.Y rest.length s₀ (.forLoop srtT (.ref G) srtB [] P.env) (k (.ok (.ret .none))) [wFrame P.env (fnB 5) pp] s) :
    ∀ (ys : List Int) (i : Nat) (s₀ s : Shared) (ρ : Loc), ys = xs.drop i → i ≤ xs.length → Loop1 P (P.sub env2 hN2 G pp) G g2 j sy gs s₀ s ρ → LRep s.heap a (xs.map .int) → s.heap.IsListIter I a i →
      P.LL.flatten.drop (P.LL.flatten.length - (ys ++ rest).length) = ys ++ rest → (ys ++ rest).length ≤ P.LL.flatten.length →
      Seg P.M P.A P.R P.Y (ys ++ rest).length s₀ (yfCode I) (P.M.den (yfCode I)) [.ret k h g lv (.forLoop srtT (.ref G) srtB [] P.env) p2 kp, wFrame P.env (fnB 5) pp] s := by
  subst hh; subst hgf
  have nX : ∀ b, hN2.get? b = none → ¬ P.X b := fun b q w => hd b (p.x1 b w) q
  intro ys
  induction ys with
  | nil =>
    intro i s₀ s ρ e hi L hL hit hF hle
    obtain ⟨vs, hl, hr⟩ := hL.isList
    have hlen := hr.length
    simp only [List.length_map, Array.length_toList] at hlen
    have hx : vs[i]? = none := by
      have := List.drop_eq_nil_iff.mp e.symm
      rw [Array.getElem?_eq_none]; omega
    obtain ⟨oi, gi, hci, hdi⟩ := id hit
    refine seg_yf_end p.ctx.handled hit hl hx fun h' hx' => next _ _ _ (L.move p hd (Z := (· = I)) (fun b e => e ▸ ⟨hI1, hI2, hI3⟩) (TExt.other gi (Odd.of hci hdi).t hx') (fun b o nb e => .of (hx' b o nb e)) rfl (grow.refl _) rfl)
  | cons y ys ih =>
    intro i s₀ s ρ e hi L hL hit hF hle
    obtain ⟨vs, hl, hr⟩ := hL.isList
    have hxy : xs[i]? = some y := by
      have := congrArg List.head? e
      rw [List.head?_drop] at this; exact this.symm
    have hil : i < xs.length := (List.getElem?_eq_some_iff.mp hxy).1
    have e' : ys = xs.drop (i + 1) := by
      have := congrArg (List.drop 1) e
      rw [List.drop_drop] at this; exact this
    obtain ⟨c, hc, t, rfl⟩ := hr.get (i := i) (v := .int y) (by rw [List.getElem?_map, hxy]; rfl)
    have hx : vs[i]? = some (.int y t) := by simpa using hc
    obtain ⟨oi, gi, hci, hdi⟩ := id hit
    have hF' : P.LL.flatten.drop (P.LL.flatten.length - ((ys ++ rest).length + 1)) = y :: (ys ++ rest) := hF
    obtain ⟨q1, q2, q3⟩ := drop_at hF' rfl hle
    show Seg P.M P.A P.R P.Y ((ys ++ rest).length + 1) s₀ _ _ _ s
    refine seg_yf_item hit hl hx rfl rfl fun h' hit' hs' kap hkap => ?_
    have tt : TExt s.heap h' := TExt.other gi (Odd.of hci hdi).t hs'.extBut
    have L' : Loop1 P (P.sub env2 hN2 G pp) G g2 j sy gs s₀ { s with heap := h' } ρ := L.move p hd (Z := (· = I)) (fun b e => e ▸ ⟨hI1, hI2, hI3⟩) tt (fun b o nb e => .of ((hs'.2 b nb).trans e)) rfl (grow.refl _) rfl
    have hL' : LRep h' a (xs.map .int) := hL.t tt fun o e => (hs'.2 a haI).trans e
    refine ⟨y, t, q1, q3, rfl, L'.a.keep, L'.a.gr, fun s'' bk hg => hkap s'' ?_ ?_⟩
    · obtain ⟨o, ho, hc2, hd2⟩ := Heap.IsListIter.k hit' fun o => bk.2.1 I o (nX I hI1)
      exact ⟨o, ho, hc2⟩
    · exact ih (i + 1) s'' s'' ρ e' hil (L'.again p hG hne bk hg) (LRep.k hL' bk.1 fun o => bk.2.1 a o (nX a ha)) (Heap.IsListIter.k hit' fun o => bk.2.1 I o (nX I hI1)) q2 (by omega)
end
end Mine
end
section
open PySem PySem.W PyProof.Rows PySem.SeqAt
open Builtin Builtin.ObjectAttr
set_option maxRecDepth 100000
set_option autoImplicit false
set_option linter.unusedVariables false
namespace Mine
theorem quiet_for {t : Expr} {v : Value} {b o : List Stmt} {e : Env} : (Code.forLoop t v b o e).quiet = true := by
  first | rfl | decide +kernel | (simp [Code.quiet, Thread.loud, Thread.atCollectorCode, Thread.yieldsInsideHandler])
theorem Ext.dom {h h' : Heap} (x : Ext h h') : Dom h h' := x.k.dom
theorem KeepN.ext {hN : Heap} {X : Addr → Prop} {a b c : Shared} (x : KeepN hN X a b) (e : Ext b.heap c.heap) (o : c.os = b.os) : KeepN hN X a c := x.trans ⟨e.t, fun p ob _ _ h => .of (e p ob h), o⟩
theorem drop_tail {α : Type} (A B : List α) : (A ++ B).drop ((A ++ B).length - B.length) = B := by
  rw [List.length_append, Nat.add_sub_cancel, List.drop_left]
section
variable {P : G1P} {env2 : Env} {hN2 : Heap} {G : Addr} {g2 : Nat} {pp : Pos}
theorem g1_loop (p : P.Ok) (p2 : (P.sub env2 hN2 G pp).Ok) (hd : Dom P.hN hN2) (hG : ¬ P.X G) (hGo : ¬ Own P.env P.H G) (hGn : hN2.get? G ≠ none) (hne : g2 ≠ P.g) :
    ∀ (j : Nat) (sy : Shared) (gs : GenState) (s₀ s : Shared) (ρ : Loc), j ≤ P.LL.length → Loop1 P (P.sub env2 hN2 G pp) G g2 j sy gs s₀ s ρ →
      Seg P.M P.A P.R P.Y ((P.LL.drop (P.LL.length - j)).flatten.length) s₀ (.forLoop srtT (.ref G) srtB [] P.env) (P.M.den (.forLoop srtT (.ref G) srtB [] P.env)) [wFrame P.env (fnB 5) pp] s := by
  have froz : ∀ {s s₁ : Shared}, (∀ x ∈ P.env :: P.outer, FrameOk s.heap x) → KeepN hN2 (fun _ => False) s s₁ → ∀ x ∈ P.env :: P.outer, FrameOk s₁.heap x := fun h k x hx => by
    obtain ⟨h1, L, o, h2, h3, h4⟩ := h x hx
    obtain ⟨o', h5, h6⟩ := (k.2.1 L o (p2.outs x hx L h2) (fun q => q) h3).same (h := default) h4
    exact ⟨h1, L, o', h2, h5, h6⟩
  have ends : ∀ (j : Nat) (sy : Shared) (gs : GenState) (s₀ s : Shared) (ρ : Loc) (n : Nat), Loop1 P (P.sub env2 hN2 G pp) G g2 j sy gs s₀ s ρ → (j = 0 → n = 0) →
      ∀ r s₁, (P.sub env2 hN2 G pp).R j (s.setGen g2 .running) r s₁ →
      (r = .ok (.ret .none) ∧ ∀ h', Ext s₁.heap h' → Seg P.M P.A P.R P.Y n s₀ (.forLoop srtT (.ref G) srtB [] P.env) (.pure (.again (.block [] P.env))) [wFrame P.env (fnB 5) pp] { s₁.setGen g2 .finished with heap := h' }) ∨
      (∃ e o, r = .error (.ref e) ∧ s₁.heap.IsGen G g2 ∧ ExcIn P.K s₁.heap ∧ s₁.heap.get? e = some o ∧ o.cls = .ref P.K.C ∧ Seg P.M P.A P.R P.Y n s₀ (.forLoop srtT (.ref G) srtB [] P.env) (noteH P.env (.ref e)) [wFrame P.env (fnB 5) pp] (s₁.setGen g2 .finished)) := by
    intro j sy gs s₀ s ρ n L hn r s₁ ⟨hk, hgens, hm, hcase⟩
    have hk' : KeepN hN2 (fun _ => False) s s₁ := hk
    have hk1 : KeepN P.hN (Own P.env P.H) s s₁ := hk'.less hd fun _ q => q.elim
    have hg1 : grow s.gens s₁.gens := by rw [hgens]; exact grow.set rfl
    have hn0 := hn hm
    subst hn0
    rcases hcase with ⟨hb, rfl⟩ | ⟨hb, e, rfl, ⟨cc, d, lc, ld, F, nn, i1, i2, j1, j2⟩, X1, fr1⟩
    · refine .inl ⟨rfl, fun h' x => seg_block_nil ?_⟩
      exact seg_end (.ok (.ret .none)) ⟨(L.a.keep.trans hk1).ext x rfl, (L.a.gr.trans hg1).trans (grow.set rfl), rfl, .inl ⟨hb, rfl⟩⟩
    · obtain ⟨o, vs, g1, g3, _⟩ := F.dat
      refine .inr ⟨e, o, rfl, IsGen.k L.gen fun o => hk'.2.1 G o hGn fun q => q, X1, g1, g3, ?_⟩
      refine seg_fail (s := s₁.setGen g2 .finished) p.ctx rfl (F.weak hd) fr1 fun h' st F' hl' => ?_
      refine ⟨⟨(L.a.keep.trans hk1).1.trans st.text, fun b ob hb nO hob => ((L.a.keep.trans hk1).2.1 b ob hb nO hob).trans fun o' ho' => st b o' ho' (.inl hb), (L.a.keep.trans hk1).2.2⟩, (L.a.gr.trans hg1).trans (grow.set rfl), rfl,
        .inr ⟨hb, e, rfl, ⟨cc, d, lc, ld, F', ⟨Classical.byContradiction fun q => hd _ q nn.1, Classical.byContradiction fun q => hd _ q nn.2⟩, st.iset i1, i2, st.pset j1, j2⟩, ?_, fun x hx => hl' x (List.mem_cons_of_mem _ hx)⟩⟩
      refine p.exc.k fun b ob hob => ?_
      have hbN := p.gbN b (by rw [hob]; exact fun w => nomatch w)
      exact ((L.a.R.st L.a.ok b ob hob).trans fun o' ho' => hk'.2.1 b o' (hd b hbN) (fun q => q) ho').trans fun o' ho' => st b o' ho' (.inl hbN)
  intro j
  induction j with
  | zero =>
    intro sy gs s₀ s ρ hj L
    have hnil : (P.LL.drop (P.LL.length - 0)).flatten = [] := by rw [Nat.sub_zero, List.drop_length]; rfl
    rw [hnil]
    refine seg_forLoop (gen_next (K := P.K) p.ctx.handled (L.a.R.nolim L.a.ok) ?_ L.gen L.at_ (L.rd _ (L.bk.heap rfl rfl)) (fun v s₁ gs' hb hy => ?_) (ends 0 sy gs s₀ s ρ 0 L (fun _ => rfl)))
    · have := p.ctx.depth
      show P.A.depth + 1 + 0 < recursionLimit
      omega
    · obtain ⟨xs, a, hxs, hm, rfl, ha, hL, hk, hgens, back⟩ := hy
      exact (back s₁ (Back.refl (froz (s := s) (L.a.frames p) hk))).elim
  | succ m ih =>
    intro sy gs s₀ s ρ hj L
    refine seg_forLoop (gen_next (K := P.K) p.ctx.handled (L.a.R.nolim L.a.ok) ?_ L.gen L.at_ (L.rd _ (L.bk.heap rfl rfl)) (fun v s₁ gs' hb hy => ?_) (ends (m + 1) sy gs s₀ s ρ _ L (fun q => nomatch q)))
    · have := p.ctx.depth
      show P.A.depth + 1 + 0 < recursionLimit
      omega
    · obtain ⟨xs, a, hxs, hm, rfl, ha, hL, hk, hgens, back⟩ := hy
      have hk' : KeepN hN2 (fun _ => False) s s₁ := hk
      have fr1 := froz (s := s) (L.a.frames p) hk'
      have g2s : g2 < s.gens.size := (Array.getElem?_eq_some_iff.mp L.at_).1
      have a₂ : Amid1 P s₀ (s₁.setGen g2 gs') ρ := L.a.move p (Z := fun b => hN2.get? b = none) (fun b z => Classical.byContradiction fun w => hd b w z) hk'.1 (fun b o nz e => hk'.2.1 b o nz (fun q => q) e) hk'.2.2 (by
        have e1 : grow s.gens s₁.gens := by rw [hgens]; exact grow.set rfl
        exact e1.trans (grow.set hb))
      have L₂ : Loop1 P (P.sub env2 hN2 G pp) G g2 m s₁ gs' s₀ (s₁.setGen g2 gs') ρ := by
        refine ⟨a₂, hk'.dom L.d2, IsGen.k L.gen fun o => hk'.2.1 G o hGn fun q => q, ?_, back, (Back.refl fr1).heap rfl rfl⟩
        show (s₁.gens.setIfInBounds g2 gs')[g2]? = some gs'
        rw [hgens]
        show ((s.gens.setIfInBounds g2 .running).setIfInBounds g2 gs')[g2]? = some gs'
        simp [g2s]
      have hLL : P.LL.drop (P.LL.length - (m + 1)) = xs :: P.LL.drop (P.LL.length - m) := by
        have hm' : m < P.LL.length := hj
        have hx' : P.LL[P.LL.length - (m + 1)]? = some xs := by
          have : P.LL.length - 1 - m = P.LL.length - (m + 1) := by omega
          rw [← this]; exact hxs
        obtain ⟨hlt, hget⟩ := List.getElem?_eq_some_iff.mp hx'
        rw [List.drop_eq_getElem_cons hlt, hget]
        have : P.LL.length - (m + 1) + 1 = P.LL.length - m := by omega
        rw [this]
      have hn : (P.LL.drop (P.LL.length - (m + 1))).flatten.length = (xs ++ (P.LL.drop (P.LL.length - m)).flatten).length := by rw [hLL]; rfl
      have hFL : P.LL.flatten = (P.LL.take (P.LL.length - (m + 1))).flatten ++ (xs ++ (P.LL.drop (P.LL.length - m)).flatten) := by
        have := congrArg List.flatten (List.take_append_drop (P.LL.length - (m + 1)) P.LL)
        rw [List.flatten_append, hLL] at this
        exact this.symm
      have naO : ∀ b, hN2.get? b = none → ¬ Own P.env P.H b := fun b q w => hd b (p.own b w) q
      obtain ⟨og, nm, qn, hog, hcg, _⟩ := id L₂.gen
      refine wpAny_mono (letGo_no (C := P.C (s₁.setGen g2 gs')) (Q := fun _ s' => s' = s₁.setGen g2 gs') hog hcg (by decide) rfl) (fun _ s₂ e₂ => ?_) fun _ _ x => x.elim
      subst e₂
      have pc : ∀ s', GenCtx (P.C s') P.A P.outer := fun s' => ⟨p.ctx.handled, p.ctx.frames, p.ctx.depth, p.ctx.units⟩
      have ok₂ := (pc (s₁.setGen g2 gs')).loop (env := P.env) (fnB 5) pp (L₂.a.held p) (c := .forLoop srtT (.ref G) srtB [] P.env) rfl rfl rfl
      have ta : TA (P.C (s₁.setGen g2 gs')) srtT (.ref a) ρ P.H (fun ρ' => ρ' = ρ.upd "set_" (.ref a)) := by
        unfold srtT fnB
        exact TA_name (st_of (C := P.C (s₁.setGen g2 gs')) p.sc p.ro rfl) rfl
      refine wpAny_mono (ta _ P.env _ (.ref a) ok₂ L₂.a.R rfl) (fun _ s₃ ⟨ρ₃, R₃, t₃, e₃⟩ => ?_) fun _ _ x => x.elim
      obtain ⟨a₃, kp₃, hg₃, ho₃⟩ := L₂.a.step p R₃ t₃
      have L₃ := L₂.step p hGo R₃ t₃
      have hL₃ : LRep s₃.heap a (xs.map .int) := LRep.k hL t₃ fun o => kp₃ a o (naO a ha)
      show Seg _ _ _ _ _ _ _ (Sem.wrap _ _ _ _ (execs [.Expr (.YieldFrom srtYe srtYp) srtYq] P.env)) _ _
      refine seg_execs_cons (seg_Expr_YieldFrom ?_ (by unfold interactive; rw [L₃.a.R.fr.sc, L₃.a.R.fr.kind]; rfl))
      have ok₃ := (pc s₃).loop (env := P.env) (fnB 5) pp (L₃.a.held p) (c := .forLoop srtT (.ref G) srtB [] P.env) rfl rfl rfl
      have te : TE (P.C s₃) srtYe ρ₃ P.H (fun v H' => v = .ref a ∧ H' = P.H) := by
        unfold srtYe srtB fnB
        exact TE_name (ld_of (C := P.C s₃) p.sc rfl) (v := .ref a) (by rw [e₃]; exact Loc.upd_self _ _ _) ⟨rfl, rfl⟩
      refine wpAny_mono (te _ P.env s₃ ok₃ L₃.a.R) (fun v s₄ ⟨t₄, av, H₄, hv, R₄, e1, e2⟩ => ?_) fun _ _ x => x.elim
      subst e1; subst e2
      obtain rfl := hv
      obtain ⟨a₄, kp₄, hg₄, ho₄⟩ := L₃.a.step p R₄ t₄
      have L₄ := L₃.step p hGo R₄ t₄
      have hL₄ : LRep s₄.heap a (xs.map .int) := LRep.k hL₃ t₄ fun o => kp₄ a o (naO a ha)
      obtain ⟨vs, hl, hr⟩ := hL₄.isList
      refine ⟨hl.typeIs, wpAny_pyIter_list hl ⟨_, rfl, fun k p3 hk => ?_⟩⟩
      have x₅ : Ext s₄.heap (s₄.heap.push { cls := .type "list_iterator", data := .fields #[.ref a, .int 0 0] }) := Ext.push _ _
      have L₅ : Loop1 P (P.sub env2 hN2 G pp) G g2 m s₁ gs' s₀ { s₄ with heap := s₄.heap.push { cls := .type "list_iterator", data := .fields #[.ref a, .int 0 0] } } ρ₃ :=
        L₄.move p hd (Z := fun _ => False) (fun b q => q.elim) x₅.t (fun b o _ e => .of (x₅ b o e)) rfl (grow.refl _) rfl
      have fresh : ∀ b, s₄.heap.get? b ≠ none → b ≠ s₄.heap.objs.size := fun b hb e => hb (Heap.get?_none_of_le (by rw [e]; exact Nat.le_refl _))
      have hal : s₄.heap.get? a ≠ none := by obtain ⟨_, _, g, _⟩ := hL₄; rw [g]; exact fun w => nomatch w
      have hGl : s₄.heap.get? G ≠ none := by obtain ⟨_, _, _, g, _⟩ := L₄.gen; rw [g]; exact fun w => nomatch w
      rw [hn]
      refine g1_yf (xs := xs) (rest := (P.LL.drop (P.LL.length - m)).flatten) (j := m) (sy := s₁) (gs := gs') p hd hG hne (Classical.byContradiction fun w => fresh _ (L₄.d2 _ w) rfl) (Classical.byContradiction fun w => fresh _ (L₄.bk.2.2.1 _ w) rfl) (fun e => fresh G hGl e.symm) ha (fun e => fresh a hal e) rfl rfl
        (fun s₀' s' ρ' L' => ?_) xs 0 s₀ _ ρ₃ rfl (Nat.zero_le _) L₅ (hL₄.ext x₅) ⟨_, Heap.get?_push_size _ rfl, rfl, rfl⟩ (by rw [hFL]; exact drop_tail _ _) (by rw [hFL]; simp)
      rw [hk]
      refine seg_again quiet_for ?_
      exact ih s₁ gs' s₀' s' ρ' (by omega) L'
end
end Mine
end
section
open PySem PySem.W PyProof.Rows PySem.SeqAt
open Builtin Builtin.ObjectAttr
set_option maxRecDepth 100000
set_option autoImplicit false
set_option linter.unusedVariables false
namespace Mine
theorem SRep.notOwn {C : Cx} {env : Env} {ρ : Loc} {H : AHeap} {s : Shared} (R : SRep C env ρ H s) (hro : C.ro = false) {b : Addr} {o : AObj} (e : H b = some o) (hz : o.fz = true) : ¬ Own env H b := fun q => by
  have p := (R.hp b o e).2
  unfold Place at p
  rw [hz] at p
  obtain ⟨ob, h1, _⟩ := p
  rw [R.own_old hro q] at h1; cases h1
def srtA : List Expr := match srtI with
  | .Call _ a _ _ => a
  | _ => []
section
variable {P : G1P}
theorem g1_whole (p : P.Ok) {s : Shared} {ρ : Loc} (a : Amid1 P s s ρ) (ht : ρ "tuples" = some (.ref P.ta)) (ha : ρ "allitems" = some (.ref P.aa)) (hg : P.g < s.gens.size) :
    Seg P.M P.A P.R P.Y P.LL.flatten.length s (.func (fnB 5) P.env) (P.M.den (.func (fnB 5) P.env)) [] s := by
  have pc : GenCtx (P.C s) P.A P.outer := ⟨p.ctx.handled, p.ctx.frames, p.ctx.depth, p.ctx.units⟩
  have ok := pc.func (env := P.env) (fnB 5) (a.held p)
  obtain ⟨f, hf, fa, o, fd, rfl, g, d, hcl, hcd, hbody, hclo, hgl, hbl, hs, hbind⟩ := p.subs
  refine seg_func ?_
  rw [show execs (fnB 5) P.env = execs [.For srtT srtI srtB [] srtP] P.env from rfl]
  refine seg_execs_cons (seg_For (fun x => rfl) ?_)
  have args : TEs (P.C s) srtA ρ P.H fun as H' => as = [.ref P.ta, .ref P.aa] ∧ H' = P.H := by
    unfold srtA srtI fnB
    exact TEs_cons (fun env => rfl) (TE_name (ld_of (C := P.C s) p.sc rfl) (v := .ref P.ta) ht (TEs_cons (fun env => rfl) (TE_name (ld_of (C := P.C s) p.sc rfl) (v := .ref P.aa) ha (TEs_nil ⟨rfl, rfl⟩))))
  unfold srtI fnB
  refine wpAny_Call_NameR (wpAny_mono (TE_global (C := P.C s) (Q := fun v H' => v = .val (.ref fa) ∧ H' = P.H) a.ok (gl_of (C := P.C s) p.sc rfl) hf ⟨rfl, rfl⟩ _ P.env s ok a.R) (fun fv s₁ ⟨t₁, v, H₁, h1, h2, e1, e2⟩ => ?_) fun _ _ x => x.elim)
  subst e1; subst e2
  obtain rfl := h1
  have hnf : o.cls ≠ .type "frame" := by rw [hcl]; exact fun q => absurd (Value.type.inj q) (by decide)
  refine Calls.callWith_function (o := o) (fd := fd) (Calls.evalArgs_plain (wpAny_mono (args _ P.env s₁ _ ok h2) (fun vs s₂ ⟨t₂, as, H', h4, h5, e3, e4⟩ => ?_) fun _ _ x => x.elim))
  subst e3; subst e4
  refine ⟨⟨(h5.st a.ok fa o g).exact hnf, d⟩, ?_⟩
  obtain ⟨a₂, kp₂, hg₂, ho₂⟩ := a.step p h5 (t₁.trans t₂)
  refine gen_made (C := P.C s₂) (i := 4) (room := P.B.room - 1) (ps := ["tuples", "allitems"]) (avs := [.ref P.ta, .ref P.aa]) (vs' := vs) a₂.ok a₂.R ?_ g d hcl hcd hbody hclo hgl hbl hs rfl rfl rfl rfl h4 rfl (fun A' Q' E' hq => wpAny_of_eq (hbind vs h4.length.symm) hq) fun G env2 s₃ hgen hGn x hgens hos hown R₃ ok₃ => ?_
  · have := p.ctx.depth
    show P.A.depth + 0 + 1 + 1 < recursionLimit
    have := p.room
    omega
  refine wpAny_pyIter_gen hgen fun pp => ?_
  obtain ⟨hN2, hh⟩ := hidden s₃.heap (env2.locals :: env2.cells.map (·.2))
  have ownL : ∀ (H : AHeap), (∀ b o, H b = some o → o.fz = true) → ∀ b, Own env2 H b ↔ b ∈ env2.locals :: env2.cells.map (·.2) := fun H hH b => by
    constructor
    · rintro (rfl | ⟨q, hq, rfl⟩ | ⟨o, h1, h2⟩)
      · exact List.mem_cons_self
      · exact List.mem_cons_of_mem _ (List.mem_map_of_mem hq)
      · rw [hH b o h1] at h2; cases h2
    · intro q
      rcases List.mem_cons.mp q with rfl | q
      · exact .inl rfl
      · obtain ⟨w, hw, rfl⟩ := List.mem_map.mp q; exact .inr (.inl ⟨w, hw, rfl⟩)
  have ownN : ∀ b, b ∈ env2.locals :: env2.cells.map (·.2) → s₂.heap.get? b = none ∧ b ≠ G := fun b q => hown b ((ownL (fun _ => none) (fun b o e => nomatch e) b).mpr q)
  have hd : Dom P.hN hN2 := fun b q => (hh b).mpr ⟨x.dom b (a₂.dom b q), fun w => a₂.dom b q (ownN b w).1⟩
  have nXG : ∀ b, P.hN.get? b ≠ none → b ≠ G := fun b q e => a₂.dom b q (e ▸ hGn)
  have hG : ¬ P.X G := fun q => nXG G (p.x1 G q) rfl
  have hGo : ¬ Own P.env P.H G := fun q => nXG G (p.own G q) rfl
  have hG3 : s₃.heap.get? G ≠ none := by obtain ⟨_, _, _, e, _⟩ := hgen; rw [e]; exact fun w => nomatch w
  have hGn2 : hN2.get? G ≠ none := (hh G).mpr ⟨hG3, fun w => (ownN G w).2 rfl⟩
  have hne : s₂.gens.size ≠ P.g := by rw [hg₂]; exact Nat.ne_of_gt hg
  have hta0 := a₂.R.notOwn p.ro p.hta rfl
  have haa0 := a₂.R.notOwn p.ro p.haa rfl
  have p2 : (P.sub env2 hN2 G pp).Ok := by
    refine ⟨rfl, rfl, p.stk, p.fs, p.exc, p.excG, ?_, ⟨p.ctx.handled, p.ctx.fr2 (env := P.env) (fnB 5) pp (c := .forLoop srtT (.ref G) srtB [] P.env) rfl, ?_, ?_⟩, ?_, ?_, ?_, ?_, p.gbN.trans hd, p.len, p.inn, p.cnt⟩
    · have := p.room
      show 6 < P.B.room - 1; omega
    · have := p.ctx.depth
      have := p.room
      show P.A.depth + 1 + 0 + 1 + (P.B.room - 1) < recursionLimit; omega
    · have := p.ctx.units
      have := p.room
      show P.A.units + 3 + 0 + 1 + 3 + 100 * (P.B.room - 1) + 50 < cLine; omega
    · intro e he L hL
      rcases List.mem_cons.mp he with rfl | he
      · have := (a₂.R.fr.frm p.stk).1
        rw [hL] at this; cases this
        exact hd _ (p.own _ (.inl rfl))
      · exact hd _ (p.outs e he L hL).1
    · rintro b (q | q)
      · exact hd b (p.x1 b q)
      · exact hd b (p.own b q)
    · rintro b (q | q)
      · exact p.x2 b q
      · cases e : P.B.gb.get? b with
        | none => exact e
        | some ob =>
          obtain ⟨o', h1, _⟩ := a₂.ok.base b ob e
          rw [a₂.R.own_old p.ro q] at h1; cases h1
    · rintro b (q | q)
      · have := (p.x3 b q).2
        exact ⟨fun e => (by rw [show b = P.ta from e, p.hta] at this; cases this), fun e => (by rw [show b = P.aa from e, p.haa] at this; cases this)⟩
      · exact ⟨fun e => hta0 ((show b = P.ta from e) ▸ q), fun e => haa0 ((show b = P.aa from e) ▸ q)⟩
  have hfzA : ∀ b o, P.H.fzAll b = some o → o.fz = true := fun b o e => by
    unfold AHeap.fzAll at e
    cases q : P.H b with
    | none => rw [q] at e; cases e
    | some o' =>
      rw [q] at e
      exact ((a₂.R.hp b o' q).1.freeze e).2.1
  have a₃ : Amid1 P s s₃ ρ := a₂.move p (Z := fun _ => False) (fun b q => q.elim) x.t (fun b o _ e => .of (x b o e)) hos (by rw [hgens]; exact grow.push rfl)
  have fr3 := a₃.frames p
  have hownN : ∀ b, Own env2 P.H.fzAll b → hN2.get? b = none := fun b q => Classical.byContradiction fun w => ((hh b).mp w).2 ((ownL _ hfzA b).mp q)
  have L : Loop1 P (P.sub env2 hN2 G pp) G s₂.gens.size P.LL.length s₃ (.fresh (.func (fnB 4) env2)) s s₃ ρ := by
    refine ⟨a₃, fun b q => ((hh b).mp q).1, hgen, by rw [hgens]; simp, fun s'' bk => ⟨rfl, ?_⟩, Back.refl fr3⟩
    obtain ⟨t, hk, hdm, hso, hf⟩ := bk
    have hx2 : ∀ b, (P.sub env2 hN2 G pp).X b → ¬ Own env2 P.H.fzAll b ∧ P.H.fzAll b = none ∧ P.B.gb.get? b = none := fun b q => by
      refine ⟨fun w => p2.x1 b q (hownN b w), ?_, p2.x2 b q⟩
      have : P.H b = none := by
        rcases q with q | q
        · exact (p.x3 b q).2
        · cases e : P.H b with
          | none => rfl
          | some o => exact absurd q (a₂.R.notOwn p.ro e (p.hfz b o e).1)
      unfold AHeap.fzAll
      rw [this]; rfl
    obtain ⟨ok4, R4⟩ := R₃.rebase (X := (P.sub env2 hN2 G pp).X) ok₃ rfl t hk hx2 (hso.trans R₃.os)
    refine g2_whole (P := P.sub env2 hN2 G pp) p2 p.lays (H := P.H.fzAll) (ρ := fun x => ((["tuples", "allitems"] : List Str).zip [AV.ref P.ta, AV.ref P.aa]).lookup x) (fun b q => hdm b ((hh b).mp q).1) hf hownN ok4 R4 rfl rfl ?_ ?_ p.hit p.hnd
    · show P.H.fzAll P.ta = some (.ro (P.ps.map .pair))
      unfold AHeap.fzAll; rw [p.hta]; rfl
    · show P.H.fzAll P.aa = some (.ro (P.its.map .int))
      unfold AHeap.fzAll; rw [p.haa]; rfl
  have := g1_loop p p2 hd hG hGo hGn2 hne P.LL.length s₃ _ s s₃ ρ (Nat.le_refl _) L
  rw [Nat.sub_self, List.drop_zero] at this
  exact this
end
end Mine
end
section
open PySem PySem.W PyProof.Rows PySem.SeqAt
open Builtin Builtin.ObjectAttr
set_option maxRecDepth 100000
set_option autoImplicit false
set_option linter.unusedVariables false
namespace Mine
/-- what bears on a frame -/
def Bears (C : Cx) (env : Env) (H : AHeap) (b : Addr) : Prop := b = env.locals ∨ (∃ p ∈ env.cells, p.2 = b) ∨ H b ≠ none ∨ C.hB b ≠ none
/-- list(..) of sort's generator: what is given -/
structure OutS (P : G1P) (C : Cx) (env : Env) (ρ : Loc) (H : AHeap) (A : Around) (S G : Addr) : Prop where
  ok : C.Ok
  prog : P.B.prog = C.prog
  w : P.B.w = C.w
  A_ : P.A = A.in1.in1
  X_ : P.X = fun b => b = S
  exc : ExcIn P.K C.gb
  handled : A.handled = none
  depth : A.depth < recursionLimit
  gp : ∀ a b, grow a b → C.gp a → C.gp b
  bears : ∀ b, Bears C env H b → P.hN.get? b ≠ none ∧ ¬ Own P.env P.H b ∧ b ≠ S
  G_ : P.hN.get? G ≠ none ∧ ¬ Own P.env P.H G ∧ G ≠ S
  S_ : P.hN.get? S ≠ none ∧ ¬ Own P.env P.H S
  fr : ∀ s, SRep C env ρ H s → ∀ x ∈ P.outer, FrameOk s.heap x
  few : P.LL.flatten.length < 1000
/-- n of its items to come -/
structure Outn (P : G1P) (C : Cx) (env : Env) (ρ : Loc) (H : AHeap) (S G n : Nat) (sy : Shared) (gs : GenState) (s : Shared) : Prop where
  R : SRep C env ρ H s
  gen : s.heap.IsGen G P.g
  at_ : s.gens[P.g]? = some gs
  rd : ∀ s'', Back P.X P.outer sy s'' → (∀ i, i ≠ P.g → s''.gens[i]? = sy.gens[i]?) → P.g < s''.gens.size → gs.Goes P.M P.A P.R P.Y n (.send .none) s''
  bk : Back P.X P.outer sy s
  gk : ∀ i, i ≠ P.g → s.gens[i]? = sy.gens[i]?
theorem setGen_ne {s : Shared} {g : Nat} {x : GenState} {i : Nat} (h : i ≠ g) : (s.setGen g x).gens[i]? = s.gens[i]? := by
  show (s.gens.setIfInBounds g x)[i]? = _
  rw [Array.getElem?_setIfInBounds, if_neg (Ne.symm h)]
theorem setGen_at {s : Shared} {g : Nat} {x : GenState} (h : g < s.gens.size) : (s.setGen g x).gens[g]? = some x := by
  show (s.gens.setIfInBounds g x)[g]? = _
  simp [h]
theorem Back.gens {X : Addr → Prop} {stk : List Env} {s s' : Shared} (x : Back X stk s s') {g : Array GenState} : Back X stk s { s' with gens := g } := x.heap rfl rfl
section
variable {P : G1P} {C : Cx} {env : Env} {ρ : Loc} {H : AHeap} {A : Around} {S G : Addr}
theorem OutS.moved (o : OutS P C env ρ H A S G) {s s₁ : Shared} (R : SRep C env ρ H s) (k : KeepN P.hN (Own P.env P.H) s s₁) (g : grow s.gens s₁.gens) : SRep C env ρ H s₁ :=
  R.moveK k.1 (fun b ob hb e => k.2.1 b ob (o.bears b hb).1 (o.bears b hb).2.1 e) (o.gp _ _ g R.gens) k.2.2
theorem extg_loop (p : P.Ok) (o : OutS P C env ρ H A S G) {Q : Result → Shared → Prop} (hok : ∀ s' xs c, P.bad = false → SRep C env ρ H s' → s'.heap.get? S = some { cls := .type "list", data := .seq xs c } → IntsAre xs.toList P.LL.flatten → Q (.ok (.ret .none)) s')
    (herr : ∀ s' e, P.bad = true → SRep C env ρ H s' → Told P.K P.B.w P.hN P.ps s'.heap e → (∀ x ∈ P.outer, FrameOk s'.heap x) → Q (.error (.ref e)) s') :
    ∀ (n : Nat) (sy : Shared) (gs : GenState) (s : Shared) (xs : Array Value) (c : Nat), n ≤ P.LL.flatten.length → Outn P C env ρ H S G n sy gs s → s.heap.get? S = some { cls := .type "list", data := .seq xs c } → IntsAre xs.toList (P.LL.flatten.take (P.LL.flatten.length - n)) →
      codeAny (model C.prog C.w) A (.builtin "list.extend.loop" ⟨[.ref S, .ref G, .none], []⟩) Q s := by
  have hM : P.M = model C.prog C.w := by unfold G1P.M; rw [o.prog, o.w]
  have keepS : ∀ {s s₁ : Shared} {xs : Array Value} {c : Nat}, KeepN P.hN (Own P.env P.H) s s₁ → s.heap.get? S = some { cls := .type "list", data := .seq xs c } → s₁.heap.get? S = some { cls := .type "list", data := .seq xs c } := fun k e =>
    (k.2.1 S _ o.S_.1 o.S_.2 e).exact (by show (Value.type "list") ≠ _; exact fun q => absurd (Value.type.inj q) (by decide))
  have ends : ∀ (n : Nat) (sy : Shared) (gs : GenState) (s : Shared) (xs : Array Value) (c : Nat), Outn P C env ρ H S G n sy gs s → s.heap.get? S = some { cls := .type "list", data := .seq xs c } → IntsAre xs.toList (P.LL.flatten.take (P.LL.flatten.length - n)) → ∀ r s₁, P.R n (s.setGen P.g .running) r s₁ →
      (r = .ok (.ret .none) ∧ ∀ h', Ext s₁.heap h' → Q (.ok (.ret .none)) { s₁.setGen P.g .finished with heap := h' }) ∨
      (∃ e ob, r = .error (.ref e) ∧ s₁.heap.IsGen G P.g ∧ ExcIn P.K s₁.heap ∧ s₁.heap.get? e = some ob ∧ ob.cls = .ref P.K.C ∧ Q (.error (.ref e)) (s₁.setGen P.g .finished)) := by
    intro n sy gs s xs c L hS hxs r s₁ ⟨hk, hgr, hn, hcase⟩
    subst hn
    have hk' : KeepN P.hN (Own P.env P.H) s s₁ := hk
    have hg' : grow s.gens s₁.gens := (grow.set (s := s) (g := P.g) rfl).trans hgr
    have R₁ := o.moved L.R hk' hg'
    have gfin : C.gp (s₁.setGen P.g .finished).gens := o.gp _ _ (grow.set rfl) R₁.gens
    rw [Nat.sub_zero, List.take_length] at hxs
    rcases hcase with ⟨hb, rfl⟩ | ⟨hb, e, rfl, T, X1, fr1⟩
    · refine .inl ⟨rfl, fun h' x => hok _ xs c hb (R₁.ext (s' := { s₁.setGen P.g .finished with heap := h' }) x gfin rfl) (x _ _ (keepS hk' hS)) hxs⟩
    · obtain ⟨cc, d, lc, ld, F, rest⟩ := id T
      obtain ⟨ob, vs, g1, g3, _⟩ := F.dat
      exact .inr ⟨e, ob, rfl, IsGen.k L.gen fun ob => hk'.2.1 G ob o.G_.1 o.G_.2.1, X1, g1, g3, herr _ e hb (R₁.ext (s' := s₁.setGen P.g .finished) (Ext.refl _) gfin rfl) T fr1⟩
  intro n
  induction n with
  | zero =>
    intro sy gs s xs c hn L hS hxs
    refine codeAny_builtin F.entry_extend_loop ?_
    rw [Around.under_plainId F.plain_extend_loop _]
    show wpAny _ A.in1 (pyNext (.ref G) >>= _) _ _ s
    have hgo := L.rd (s.setGen P.g .running) (L.bk.heap rfl rfl) (fun i hi => (setGen_ne hi).trans (L.gk i hi)) (by show _ < (s.gens.setIfInBounds _ _).size; have := (Array.getElem?_eq_some_iff.mp L.at_).1; simpa using this)
    rw [hM, o.A_] at hgo
    refine wpAny_bind (gen_next (K := P.K) o.handled (L.R.nolim o.ok) o.depth L.gen L.at_ hgo (fun v s₁ gs' hb hy => ?_) fun r s₁ hr => ?_)
    · obtain ⟨x, t, hx, hlt, rfl, hk, hgr, back⟩ := hy
      have R₁ := o.moved L.R hk ((grow.set (s := s) (g := P.g) rfl).trans hgr)
      exact (back s₁ (Back.refl (o.fr s₁ R₁)) fun i _ => rfl).elim
    · rcases ends 0 sy gs s xs c L hS hxs r s₁ hr with ⟨e, q⟩ | ⟨e, ob, q⟩
      · exact .inl ⟨e, fun h' x => wpAny_pure (q h' x)⟩
      · exact .inr ⟨e, ob, q⟩
  | succ m ih =>
    intro sy gs s xs c hn L hS hxs
    refine codeAny_builtin F.entry_extend_loop ?_
    rw [Around.under_plainId F.plain_extend_loop _]
    show wpAny _ A.in1 (pyNext (.ref G) >>= _) _ _ s
    have hgo := L.rd (s.setGen P.g .running) (L.bk.heap rfl rfl) (fun i hi => (setGen_ne hi).trans (L.gk i hi)) (by show _ < (s.gens.setIfInBounds _ _).size; have := (Array.getElem?_eq_some_iff.mp L.at_).1; simpa using this)
    rw [hM, o.A_] at hgo
    refine wpAny_bind (gen_next (K := P.K) o.handled (L.R.nolim o.ok) o.depth L.gen L.at_ hgo (fun v s₁ gs' hb hy => ?_) fun r s₁ hr => ?_)
    · obtain ⟨x, t, hx, hlt, rfl, hk, hgr, back⟩ := hy
      have hk' : KeepN P.hN (Own P.env P.H) s s₁ := hk
      have hg' : grow s.gens s₁.gens := (grow.set (s := s) (g := P.g) rfl).trans hgr
      have R₁ := o.moved L.R hk' hg'
      have hS₁ := keepS hk' hS
      have R₂ : SRep C env ρ H (s₁.setGen P.g gs') := R₁.ext (Ext.refl _) (o.gp _ _ (grow.set hb) R₁.gens) rfl
      have glt : P.g < s₁.gens.size := Nat.lt_of_lt_of_le (Array.getElem?_eq_some_iff.mp L.at_).1 hg'.1
      have hsz : xs.size = P.LL.flatten.length - (m + 1) := by
        have := hxs.length
        rw [List.length_take] at this
        simp only [Array.length_toList] at this
        omega
      have hsl : sizeLine = 2 ^ 24 := rfl
      have few := o.few
      show wpAny _ A.in1 (updateSeq S (·.push (.int x t)) >>= _) _ _ _
      refine wpAny_bind ?_
      refine wpAny_updateSeq (s := s₁.setGen P.g gs') hS₁ rfl (wpAny_pure ⟨plainId_quiet F.plain_extend_loop _, ih s₁ gs' _ (xs.push (.int x t)) _ (by omega) ?_ (Heap.get?_update_self _ hS₁ rfl) ?_⟩) (by omega) (by show (xs.push (.int x t)).size ≤ sizeLine + 1; rw [Array.size_push]; omega)
      · have sb : ∀ b, b ≠ S → ∀ ob, s₁.heap.get? b = some ob → (s₁.heap.update S (Obj.mapSeq (·.push (Value.int x t)))).get? b = some ob := fun b hb ob e => (Heap.get?_update_other _ _ (Ne.symm hb)).trans e
        have tt : TExt s₁.heap (s₁.heap.update S (Obj.mapSeq (·.push (Value.int x t)))) := fun b vs n e => sb b (by rintro rfl; rw [hS₁] at e; exact absurd (congrArg Obj.cls (Option.some.inj e)) (by show ¬ (Value.type "list" = Value.type "tuple"); exact fun q => absurd (Value.type.inj q) (by decide))) _ e
        have R₃ : SRep C env ρ H { s₁.setGen P.g gs' with heap := s₁.heap.update S (Obj.mapSeq (·.push (Value.int x t))) } := R₂.moveK tt (fun b ob hb e => .of (sb b (o.bears b hb).2.2 ob e)) R₂.gens rfl
        have hgS : ∀ ob, s₁.heap.get? G = some ob → Kept (s₁.heap.update S (Obj.mapSeq (·.push (Value.int x t)))) G ob := fun ob e => .of (sb G o.G_.2.2 ob e)
        refine ⟨R₃, IsGen.k (IsGen.k L.gen fun ob => hk'.2.1 G ob o.G_.1 o.G_.2.1) hgS, setGen_at glt, fun s'' bk hgs _ => (by rw [hM, o.A_]; exact back s'' bk hgs), ⟨tt, fun b ob nx e => .of (sb b (by rw [o.X_] at nx; exact nx) ob e), fun b q => ?_, rfl, o.fr _ R₃⟩, fun i hi => setGen_ne hi⟩
        by_cases w : b = S
        · subst w
          show (s₁.heap.update b (Obj.mapSeq (·.push (Value.int x t)))).get? b ≠ none
          rw [Heap.get?_update_self _ hS₁ rfl]; exact fun w => nomatch w
        · obtain ⟨ob, e⟩ := Option.ne_none_iff_exists'.mp q
          show (s₁.heap.update S (Obj.mapSeq (·.push (Value.int x t)))).get? b ≠ none
          rw [sb b w ob e]; exact fun w => nomatch w
      · have e1 : P.LL.flatten.length - m = (P.LL.flatten.length - (m + 1)) + 1 := by omega
        have e2 : P.LL.flatten[P.LL.flatten.length - (m + 1)]? = some x := by
          have : P.LL.flatten.length - 1 - m = P.LL.flatten.length - (m + 1) := by omega
          rw [← this]; exact hx
        rw [e1, List.take_add_one, e2, Array.toList_push]
        exact hxs.append (.cons x t .nil)
    · rcases ends (m + 1) sy gs s xs c L hS hxs r s₁ hr with ⟨e, q⟩ | ⟨e, ob, q⟩
      · exact .inl ⟨e, fun h' x => wpAny_pure (q h' x)⟩
      · exact .inr ⟨e, ob, q⟩
end
end Mine
end
section
open PySem PySem.W PyProof.Rows PySem.SeqAt
open Builtin Builtin.ObjectAttr
set_option maxRecDepth 100000
set_option autoImplicit false
set_option linter.unusedVariables false
namespace Mine
section
variable {prog : Program} {w : World} {A : Around} {E : Value → Shared → Prop} {s : Shared}
theorem list_gen {G g : Nat} {Q : Value → Shared → Prop} (hg : s.heap.IsGen G g)
    (next : ∀ h c, Ext s.heap h → h.get? s.heap.objs.size = some { cls := .type "list", data := .seq #[] c } → codeAny (model prog w) A.in1 (.builtin "list.extend.loop" ⟨[.ref s.heap.objs.size, .ref G, .none], []⟩) (wants (fun r s₂ => r = .none ∧ Q (.ref s.heap.objs.size) s₂) E) { s with heap := h }) :
    wpAny (model prog w) A (call (.type "list") [.ref G]) Q E s := by
  refine callType_codes (Q₁ := fun obj s₁ => obj = .ref s.heap.objs.size ∧ s₁ = { s with heap := s.heap.push { cls := .type "list", data := .seq #[] } }) F.called_list (F.typeCall_list_1 _) F.entry_list_init
    (code_list_new _ ⟨rfl, rfl⟩) fun obj s₁ h₁ => ?_
  obtain ⟨rfl, rfl⟩ := h₁
  have hS : (s.heap.push { cls := .type "list", data := .seq #[] }).get? s.heap.objs.size = some { cls := .type "list", data := .seq #[] } := Heap.get?_push_size _ rfl
  refine ⟨⟨_, hS, rfl⟩, F.args_list_init_2 _ _, ?_⟩
  generalize hSS : s.heap.objs.size = S at *
  have hGS : S ≠ G := fun e => by
    obtain ⟨_, _, _, e1, _⟩ := hg
    rw [← e, ← hSS] at e1
    exact Nat.lt_irrefl _ (Heap.lt_size e1)
  show wpAny _ A.in1.in1 (do let old ← Builtin.List.listItems (.ref S); Builtin.List.listUpdate (.ref S) (fun _ => #[]); letGo old.toList.reverse; Builtin.List.listExtendWith (.ref S) (.ref G) .none) _ _ _
  refine wpAny_bind ?_
  unfold Builtin.List.listItems
  refine wpAny_bind (wpAny_seqItems hS rfl (wpAny_pure ?_))
  show wpAny _ A.in1.in1 (updateSeq S (fun _ => #[]) >>= fun _ => letGo (#[] : Array Value).toList.reverse >>= fun _ => Builtin.List.listExtendWith (.ref S) (.ref G) .none) _ _ _
  refine wpAny_bind (wpAny_updateSeq hS rfl ?_)
  have hS₂ := Heap.get?_update_self (Obj.mapSeq (fun _ => (#[] : Array Value))) hS rfl
  refine wpAny_bind (wpAny_letGo ?_)
  unfold Builtin.List.listExtendWith
  have x2 : Ext s.heap ((s.heap.push { cls := .type "list", data := .seq #[] }).update S (Obj.mapSeq fun _ => #[])) := fun b o e =>
    (Heap.get?_update_other _ _ (fun q => by rw [← q, ← hSS] at e; exact Nat.lt_irrefl _ (Heap.lt_size e))).trans (Heap.get?_push_of_some _ e)
  have hg2 := IsGen.k hg fun o e => .of (x2 G o e)
  refine wpAny_bind (wpAny_typeOf hg2.typeIs ?_)
  have h1 : Builtin.List.listSameRef (.ref S) (.ref G) = false := by simp [Builtin.List.listSameRef, hGS]
  have h2 : (Value.type "generator" == Value.type "list") = false := by decide
  have h3 : (Value.type "generator" == Value.type "tuple") = false := by decide
  simp only [h1, h2, h3, Bool.or_false, Bool.false_eq_true, if_false]
  refine wpAny_bind (wpAny_pyIter_gen hg2 ?_)
  refine wpAny_bind (wpAny_holding ?_)
  unfold Builtin.List.listLengthHint
  refine wpAny_bind (wpAny_specialOf hg2.typeIs F.gen_no_len ?_)
  show wpAny _ A.in1.in1 (specialOf (Value.ref G) (Str.ofString "__length_hint__") >>= _) _ _ _
  refine wpAny_bind (wpAny_specialOf hg2.typeIs F.gen_no_hint ?_)
  refine wpAny_pure ?_
  show wpAny _ A.in1.in1 (rule "list.extend.makes-room" >>= fun _ => Builtin.List.listTouch (.ref S) >>= fun _ =>
    again (.builtin "list.extend.loop" ⟨[.ref S, .ref G, .none], []⟩)) _ _ _
  refine wpAny_bind (wpAny_rule ?_)
  refine wpAny_bind ?_
  show wpAny _ A.in1.in1 (updateSeq S (·.push .none) >>= fun _ => updateSeq S (·.pop)) _ _ _
  refine wpAny_bind (wpAny_updateSeq hS₂ rfl ?_)
  have hS₃ := Heap.get?_update_self (Obj.mapSeq (·.push Value.none)) hS₂ rfl
  refine wpAny_updateSeq (hz := by seq_fits) hS₃ rfl ?_
  have hS₄ := Heap.get?_update_self (Obj.mapSeq (·.pop)) hS₃ rfl
  refine wpAny_pure ⟨plainId_quiet F.plain_extend_loop _, next _ _ (fun b o e => ?_) hS₄⟩
  have hb : S ≠ b := fun q => by rw [← q, ← hSS] at e; exact Nat.lt_irrefl _ (Heap.lt_size e)
  exact (Heap.get?_update_other _ _ hb).trans ((Heap.get?_update_other _ _ hb).trans (x2 b o e))
end
end Mine
end
section
open PySem PySem.W PyProof.Rows PySem.SeqAt
open Builtin Builtin.ObjectAttr
set_option maxRecDepth 100000
set_option autoImplicit false
set_option linter.unusedVariables false
namespace Mine
/-- the def sort, with its default -/
def SortAt (gb : Heap) (f : Value) : Prop :=
  ∃ fa o fd, f = .ref fa ∧ gb.get? fa = some o ∧ o.data = .func fd ∧ o.cls = .type "function" ∧ gb.CodeRec fd.code fd.qualname ∧ fd.body = .stmts (fnB 5) ∧ fd.closure = [] ∧ fd.globals = mainGlobals ∧ fd.builtins = builtinsNs ∧ fd.scope = fnS 5 ∧
    ∀ (P : Program) (w : World) (A : Around) (Q : List (Str × Value) → Shared → Prop) (E : Value → Shared → Prop) (s : Shared) (v1 v2 : Value), ExtK gb s.heap → Q ((["tuples", "allitems", "deterministic_order"] : List Str).zip [v1, v2, .bool true]) s → wpAny (model P w) A (bindArgs fd ⟨[v1, v2], []⟩) Q E s
theorem Told.weak {K : ExcK} {w : World} {hN hN' : Heap} {ps : List (Int × Int)} {h : Heap} {e : Addr} (t : Told K w hN ps h e) (m : Dom hN' hN) : Told K w hN' ps h e :=
  let ⟨c, d, l, r, F, nn, x⟩ := t; ⟨c, d, l, r, F.weak m, ⟨Classical.byContradiction fun q => m _ q nn.1, Classical.byContradiction fun q => m _ q nn.2⟩, x⟩
theorem frames_ok {C : Cx} {A : Around} {env : Env} {ρ : Loc} {H : AHeap} {s : Shared} (ok : AOk C A env) (hst : C.stk = true) : ∃ outer, A.frames = some (env :: outer) ∧ ∀ s, SRep C env ρ H s → ∀ x ∈ env :: outer, FrameOk s.heap x := by
  obtain ⟨outer, h1, h2⟩ := ok.frames hst
  refine ⟨outer, h1, fun s R x hx => ?_⟩
  rcases List.mem_cons.mp hx with rfl | hx
  · obtain ⟨q1, o, q2, q3⟩ := R.fr.frm hst
    exact ⟨⟨by rw [R.fr.sc, R.fr.kind]; decide, fun L hL => by rw [q1] at hL; cases hL; exact R.fr.low⟩, _, o, q1, q2, q3⟩
  · obtain ⟨h3, L, o, h4, h5, h6⟩ := h2 x hx
    obtain ⟨o', h7, h8, _⟩ := (R.keep _ _ h5).data
    exact ⟨h3, L, o', h4, h7, h8.trans h6⟩
theorem SRep.bears {C : Cx} {env : Env} {ρ : Loc} {H : AHeap} {s : Shared} (R : SRep C env ρ H s) {b : Addr} (h : Bears C env H b) : s.heap.get? b ≠ none := by
  rcases h with rfl | ⟨p, hp, rfl⟩ | h | h
  · obtain ⟨m, ⟨o, _, _, e, _⟩, _⟩ := R.fr.ns
    rw [e]; exact fun w => nomatch w
  · obtain ⟨v, o, e, _⟩ := R.fr.cin p hp
    rw [e]; exact fun w => nomatch w
  · obtain ⟨o, e⟩ := Option.ne_none_iff_exists'.mp h
    obtain ⟨ob, g, _⟩ := (R.hp b o e).1.there
    rw [g]; exact fun w => nomatch w
  · obtain ⟨o, e⟩ := Option.ne_none_iff_exists'.mp h
    obtain ⟨ob, g, _⟩ := R.keep b o e
    rw [g]; exact fun w => nomatch w
theorem sort_list {C : Cx} {env : Env} {ρ : Loc} {H : AHeap} {s : Shared} {A : Around} {ps : List (Int × Int)} {its : List Int} {ta aa : Addr} {LL : List (List Int)} {bad : Bool} {K : ExcK} {fv : Value} {Q : Value → Shared → Prop} {E : Value → Shared → Prop}
    (k : C.Ok) (ok : AOk C A env) (R : SRep C env ρ H s) (hst : C.stk = true) (hgp : ∀ a b, grow a b → C.gp a → C.gp b) (fs : Fns C.G C.gb) (X : ExcIn K C.gb) (excG : C.G "CircularDependencyError" = some (.ref K.C))
    (subs : ∃ f, C.G "sort_as_subsets" = some f ∧ FnAt C.gb f 4 ["tuples", "allitems"]) (hsort : SortAt C.gb fv) (room : 12 < C.room) (hta : H ta = some (.ro (ps.map .pair))) (haa : H aa = some (.ro (its.map .int)))
    (len : ps.length < 100) (inn : ∀ p ∈ ps, (0 ≤ p.1 ∧ p.1 < 5) ∧ 0 ≤ p.2 ∧ p.2 < 5) (cnt : ∀ ks : List Int, ks.Nodup → (ks.map fun x => (par ps x).length).sum < 12) (hit : ∀ x ∈ its, 0 ≤ x ∧ x < 5) (hnd : its.Nodup) (lays : Lays ps its LL bad) (few : LL.flatten.length < 1000)
    (hok : ∀ S s', bad = false → H S = none → SRep C env ρ (H.upd S (.list (LL.flatten.map .int))) s' → Q (.ref S) s')
    (herr : ∀ e s', bad = true → SRep C env ρ H s' → Told K C.w s.heap ps s'.heap e → E (.ref e) s') :
    wpAny (model C.prog C.w) A (call fv [.ref ta, .ref aa]) (fun v s₁ => wpAny (model C.prog C.w) A (call (.type "list") [v]) Q E s₁) E s := by
  obtain ⟨fa, o, fd, rfl, g, d, hcl, hcd, hbody, hclo, hgl, hbl, hs, hbind⟩ := hsort
  obtain ⟨outer, hfr, frs⟩ := frames_ok (ρ := ρ) (H := H) (s := s) ok hst
  have dep := ok.depth
  have uni := ok.units
  refine gen_made (C := C) (i := 5) (room := C.room - 2) (ps := ["tuples", "allitems", "deterministic_order"]) (avs := [.ref ta, .ref aa, .bool true]) (vs' := [.ref ta, .ref aa, .bool true]) k R (by omega) g d hcl hcd hbody hclo hgl hbl hs rfl rfl rfl rfl ⟨rfl, rfl, rfl, trivial⟩ rfl
    (fun A' Q' E' hq => hbind _ _ A' Q' E' s _ _ (R.st k) hq) fun G env1 s₁ hgen hGn x hgens hos hown R₁ ok₁ => ?_
  refine list_gen hgen fun h c xh hS => ?_
  generalize hSz : s₁.heap.objs.size = S at *
  have newS : ∀ b, s₁.heap.get? b ≠ none → b ≠ S := fun b hb e => hb (Heap.get?_none_of_le (by rw [e, hSz]; exact Nat.le_refl _))
  have x1 : Ext s.heap h := x.trans xh
  have hfzA : ∀ b o, H.fzAll b = some o → o.fz = true := fun b o e => by
    unfold AHeap.fzAll at e
    cases q : H b with
    | none => rw [q] at e; cases e
    | some o' => rw [q] at e; exact ((R.hp b o' q).1.freeze e).2.1
  have own0 : ∀ b, Own env1 H.fzAll b → Own env1 (fun _ => none) b := fun b q => by
    rcases q with q | q | ⟨o, q1, q2⟩
    · exact .inl q
    · exact .inr (.inl q)
    · rw [hfzA b o q1] at q2; cases q2
  have ownS : ∀ b, Own env1 H.fzAll b → s.heap.get? b = none ∧ b ≠ G := fun b q => hown b (own0 b q)
  have own1 : ∀ b, Own env1 H.fzAll b → s₁.heap.get? b ≠ none := fun b q => by
    rcases own0 b q with q | q | ⟨_, q, _⟩
    · exact R₁.bears (.inl q)
    · exact R₁.bears (.inr (.inl q))
    · cases q
  have hG1 : s₁.heap.get? G ≠ none := by obtain ⟨_, _, _, e, _⟩ := hgen; rw [e]; exact fun w => nomatch w
  have hSn : h.get? S ≠ none := by rw [hS]; exact fun w => nomatch w
  have R₂ : SRep C env ρ H { s₁ with heap := h } := R.ext x1 (hgp _ _ (by rw [hgens]; exact grow.push rfl) R.gens) hos
  generalize hP : (G1P.mk { C with sc := fnS 5, room := C.room - 2, ro := false } env1 A.in1.in1.in1 (env :: outer) h (fun b => b = S) K ps its ta aa LL bad H.fzAll s.gens.size : G1P) = P
  have p : P.Ok := by
    subst hP
    refine ⟨rfl, rfl, hst, fs, X, excG, subs, ?_, ⟨ok.handled, hfr, ?_, ?_⟩, ?_, ?_, ?_, ?_, ?_, ?_, ?_, ?_, ?_, len, inn, cnt, hit, hnd, lays⟩
    · show 8 < C.room - 2; omega
    · show A.depth + 1 + (C.room - 2) < recursionLimit; omega
    · show A.units + 1 + 1 + 1 + 3 + 100 * (C.room - 2) + 50 < cLine; omega
    · intro e he L hL
      obtain ⟨_, L', o', h2, h3, _⟩ := frs s R e he
      rw [hL] at h2; cases h2
      exact ⟨(by rw [x1 _ _ h3]; exact fun w => nomatch w), fun q => by rw [(ownS L q).1] at h3; cases h3⟩
    · rintro b rfl; exact hSn
    · rintro b rfl
      cases e : C.gb.get? b with
      | none => rfl
      | some ob =>
        obtain ⟨o', h1, _⟩ := R.st k b ob e
        exact absurd rfl (newS b (by rw [x b o' h1]; exact fun w => nomatch w))
    · rintro b rfl
      refine ⟨fun q => newS b (own1 b q) rfl, ?_⟩
      cases e : H.fzAll b with
      | none => exact e
      | some o' => exact absurd rfl (newS b (R₁.bears (.inr (.inr (.inl (by rw [e]; exact fun w => nomatch w))))))
    · intro b hb
      obtain ⟨ob, e⟩ := Option.ne_none_iff_exists'.mp hb
      obtain ⟨o', h1, _⟩ := R.st k b ob e
      rw [x1 b o' h1]; exact fun w => nomatch w
    · intro b o' e0
      have e : H.fzAll b = some o' := e0
      refine ⟨hfzA b o' e, ?_⟩
      exact xh.dom b (R₁.bears (.inr (.inr (.inl (by rw [e]; exact fun w => nomatch w)))))
    · show H.fzAll ta = _
      unfold AHeap.fzAll; rw [hta]; rfl
    · show H.fzAll aa = _
      unfold AHeap.fzAll; rw [haa]; rfl
    · exact fun b q => xh.dom b (own1 b q)
  have os : OutS P C env ρ H A.in1 S G := by
    subst hP
    refine ⟨k, rfl, rfl, rfl, rfl, X, ok.handled, by show A.depth < recursionLimit; omega, hgp, fun b q => ?_, ⟨xh.dom G hG1, fun q => (ownS G q).2 rfl, newS G hG1⟩, ⟨hSn, fun q => newS S (own1 S q) rfl⟩, frs, few⟩
    have hb := R.bears q
    exact ⟨x1.dom b hb, fun w => hb (ownS b w).1, newS b (x.dom b hb)⟩
  have hPg : P.g = s.gens.size := by rw [← hP]
  have hPL : P.LL = LL := by rw [← hP]
  have hPb : P.bad = bad := by rw [← hP]
  have L0 : Outn P C env ρ H S G P.LL.flatten.length { s₁ with heap := h } (.fresh (.func (fnB 5) env1)) { s₁ with heap := h } := by
    subst hP
    refine ⟨R₂, IsGen.k hgen fun o' e => .of (xh G o' e), by show s₁.gens[s.gens.size]? = _; rw [hgens]; simp, fun s'' bk hgi hgl => ⟨rfl, ?_⟩, Back.refl (frs _ R₂), fun i _ => rfl⟩
    obtain ⟨t, hk, hdm, hso, hf⟩ := bk
    have hx : ∀ b, b = S → ¬ Own env1 H.fzAll b ∧ H.fzAll b = none ∧ C.gb.get? b = none := fun b q => ⟨(p.x3 b q).1, (p.x3 b q).2, p.x2 b q⟩
    obtain ⟨ok4, R4⟩ := R₁.rebase (X := fun b => b = S) (s' := s'') ok₁ rfl (xh.t.trans t) (fun b ob nb e => hk b ob nb (xh b ob e)) hx (hso.trans R₁.os)
    exact g1_whole p (ρ := fun y => ((["tuples", "allitems", "deterministic_order"] : List Str).zip [AV.ref ta, AV.ref aa, AV.bool true]).lookup y) ⟨KeepN.refl, hdm, hf, ok4, R4, grow.refl _⟩ rfl rfl hgl
  have nb : ∀ b, Bears C env H b → b ≠ S := fun b q => (os.bears b q).2.2
  have hB0 : C.hB S = none := by
    cases e : C.hB S with
    | none => rfl
    | some o' => exact absurd rfl (nb S (.inr (.inr (.inr (by rw [e]; exact fun w => nomatch w)))))
  have hH0 : H S = none := by
    cases e : H S with
    | none => rfl
    | some o' => exact absurd rfl (nb S (.inr (.inr (.inl (by rw [e]; exact fun w => nomatch w)))))
  refine extg_loop p os (fun s' xs c' hb R' hS' hxs => ?_) (fun s' e hb R' T fr => ?_) P.LL.flatten.length _ _ _ #[] c (Nat.le_refl _) L0 hS (by rw [Nat.sub_self]; exact .nil)
  · rw [hPL] at hxs
    refine ⟨rfl, hok S s' (hPb ▸ hb) hH0 (R'.add (o := .list (LL.flatten.map .int)) ⟨⟨xs, c', hS', VReps.ints.mpr hxs⟩, hB0⟩ (Ne.symm (nb _ (.inl rfl))))⟩
  · have : Told K C.w h ps s'.heap e := by subst hP; exact T
    exact herr e s' (hPb ▸ hb) R' (this.weak x1.dom)
end Mine
end
section
open PySem PySem.W PyProof.Rows PySem.SeqAt
open Builtin Builtin.ObjectAttr
set_option maxRecDepth 100000
set_option autoImplicit false
set_option linter.unusedVariables false
namespace Mine
section
variable {prog : Program} {w : World} {A : Around} {E : Value → Shared → Prop} {s : Shared}
theorem tuple_end_raw {it t : Addr} {i : Nat} {items : Array Value} {Q : Option Value → Shared → Prop} (hh : ∀ h', Heap.ExtBut it s.heap h' → HOk A h')
    (hit : s.heap.IsTupleIter it t i) (ht : s.heap.IsTuple t items) (hx : items[i]? = none)
    (hQ : ∀ h', Heap.ExtBut it s.heap h' → Q none { s with heap := h' }) : wpAny (model prog w) A (pyNext (.ref it)) Q E s := by
  obtain ⟨o, ho, hc, hd⟩ := id hit
  obtain ⟨ol, hol, _, nl, hdl⟩ := ht
  unfold pyNext
  refine wpAny_bind (wpAny_attempt (wpAny_callSpecial?_slot (name := Str.ofString "__next__") hit.typeIs F.slot_tuple_iterator_next
    (wpAny_call_entry F.slot_tuple_iterator_next hit.typeIs F.entry_tuple_iterator_next ?_ (F.args_tuple_iterator_next_1 _))))
  show wpAny _ _ (field (.ref it) 0 >>= _) _ _ s
  refine wpAny_bind (wpAny_field ho hd (x := .ref t) rfl ?_)
  show wpAny _ _ (if (Value.ref t == Value.none) = true then _ else _) _ _ s
  rw [if_neg (show ¬ ((Value.ref t == Value.none) = true) from Bool.false_ne_true)]
  show wpAny _ _ (field (.ref it) 1 >>= _) _ _ s
  refine wpAny_bind (wpAny_field ho hd (x := .int i 0) rfl ?_)
  show wpAny _ _ (seqItems? (.ref t) >>= _) _ _ s
  refine wpAny_bind (wpAny_seqItems hol hdl ?_)
  simp only [Int.toNat_natCast, hx]
  refine wpAny_bind (wpAny_rule (wpAny_bind (wpAny_setField ho hd (by simp) ?_)))
  show wpAny _ _ (newExc (.type "StopIteration") [] >>= fun e => raiseNew e) _ _ _
  refine stop_raised (hh _ (Heap.SameBut.update ..).extBut) fun h' x ob e1 hx' hcl => ?_
  refine wpAny_bind (wpAny_isInstance (T := "StopIteration") (b := true) ⟨_, hx', hcl⟩ isSubtype_stop ?_)
  exact wpAny_pure (hQ _ fun b o hb e => e1 b o ((Heap.SameBut.update ..).extBut b o hb e))
theorem unpackItems_raw {t : Addr} {items : Array Value} {Q : List Value → Shared → Prop} (hh : HOk A s.heap) (ht : s.heap.IsTuple t items)
    (hQ : ∀ h', Heap.ExtBut s.heap.objs.size s.heap h' → Q items.toList { s with heap := h' }) : wpAny (model prog w) A (unpackItems (.ref t) items.size none) Q E s := by
  have hlt : t ≠ s.heap.objs.size := by obtain ⟨o, ho, _⟩ := ht; exact Nat.ne_of_lt (Heap.lt_size ho)
  unfold unpackItems
  refine wpAny_bind ?_
  · unfold notIterableAtAll
    refine wpAny_bind (wpAny_specialOf ht.typeIs F.slot_tuple_iter.lookup ?_)
    refine wpAny_pure ?_
    simp only [Bool.false_eq_true, if_false]
    refine wpAny_bind (wpAny_holding (wpAny_pyIter_tuple ht ?_))
    refine wpAny_bind (wpAny_holding (wpAny_draw_tuple hlt items.size 0 _ _ ⟨_, Heap.get?_push_size _ rfl, rfl, rfl⟩ (ht.push _) (by omega) fun h₁ hit₁ hs₁ => ?_))
    have hall : List.take items.size (List.drop 0 items.toList) = items.toList := by
      rw [List.drop_zero]; exact List.take_of_length_le (by simp)
    rw [hall]
    rw [if_neg (by simp)]
    have ht₁ : h₁.IsTuple t items := (ht.push _).extBut hs₁.extBut hlt
    have e1 : ∀ b o, b ≠ s.heap.objs.size → s.heap.get? b = some o → h₁.get? b = some o := fun b o hb e => hs₁.extBut b o hb (Heap.get?_push_of_some _ e)
    refine wpAny_bind (wpAny_holding (tuple_end_raw (fun h' he => hh.ext fun e oe _ g => ?_) hit₁ ht₁ (by simp) fun h₂ he₂ => ?_))
    · have hn : e ≠ s.heap.objs.size := Nat.ne_of_lt (Heap.lt_size g)
      exact he e oe hn (e1 e oe hn g)
    · simp only [Option.isSome_none, Bool.false_eq_true, if_false]
      refine wpAny_pure (hQ h₂ fun b o hb e => he₂ b o hb (e1 b o hb e))
theorem dropName_cls (name : Str) (o : Obj) : (Obj.dropName name o).cls = o.cls := by
  obtain ⟨c, d, dt, sl⟩ := o
  cases dt with
  | dict es n =>
    simp only [Obj.dropName_eq]
    unfold Obj.dropNameByArray
    dsimp only
    split <;> rfl
  | _ => rfl
end
section
variable {C : Cx} {A : Around} {env : Env} {ρ : Loc} {H : AHeap} {s : Shared}
/-- the same whatever is handled -/
theorem TN_name {x : Str} {pos : Pos} {v : AV} {Q : Value → Shared → Prop} {E : Value → Shared → Prop} (hk : ldOk C.sc x = true) (hv : ρ x = some v) (r : SRep C env ρ H s) (h : ∀ c, VRep s.heap v c → Q c s) : wpAny (model C.prog C.w) A (eval (.Name x pos) env) Q E s := by
  unfold ldOk at hk
  simp only [Bool.and_eq_true, Bool.not_eq_true'] at hk
  obtain ⟨⟨hk, hd⟩, hcd⟩ := hk
  refine wpAny_Name ?_ hd
  split at hk
  · rename_i e
    obtain ⟨m, hn, hm⟩ := r.fr.ns
    obtain ⟨c, h1, h2⟩ := hm x v e hv
    exact wpAny_loadName_local r.fr.kindF ((r.fr.kindOf x).trans e) hn h1 (h _ h2)
  · rename_i e
    obtain ⟨ca, co, h1, h2, h3⟩ := r.fr.cells x (.inl e)
    obtain ⟨c, rfl, h5⟩ := h3 v hv
    exact wpAny_loadName_cell r.fr.kindF ((r.fr.kindOf x).trans e) h1 h2 (h _ h5)
  · rename_i e
    obtain ⟨ca, co, h1, h2, h3⟩ := r.fr.cells x (.inr e)
    obtain ⟨c, rfl, h5⟩ := h3 v hv
    exact wpAny_loadName_free r.fr.kindF ((r.fr.kindOf x).trans e) h1 h2 (h _ h5) hcd
  · cases hk
theorem TN_global {x : Str} {pos : Pos} {v : Value} {Q : Value → Shared → Prop} {E : Value → Shared → Prop} (k : C.Ok) (hk : glOk C.sc x = true) (hv : C.G x = some v) (r : SRep C env ρ H s) (h : Q v s) : wpAny (model C.prog C.w) A (eval (.Name x pos) env) Q E s := by
  unfold glOk at hk
  simp only [Bool.and_eq_true, Bool.not_eq_true'] at hk
  obtain ⟨hk, hd⟩ := hk
  refine wpAny_Name ?_ hd
  split at hk
  · rename_i e
    obtain ⟨mg, mb, hg, hb, hG⟩ := k.glob
    have st : ExtK C.gb s.heap := r.st k
    have fin : Q v s := h
    unfold loadName
    simp only [Env.blockKind, r.fr.kindF, (r.fr.kindOf x).trans e, ScopeKind.isAnnotationScope, Bool.false_and, Bool.false_eq_true, if_false]
    unfold loadGlobal
    rw [r.fr.gl, r.fr.bl]
    refine wpAny_bind (wpAny_nsGet (ns_k hg fun o => st _ o) ?_)
    rcases hG x v hv with h1 | ⟨h1, h2⟩
    · rw [h1]; exact wpAny_pure fin
    · rw [h1]
      refine wpAny_bind (wpAny_nsGet (ns_k hb fun o => st _ o) ?_)
      rw [h2]; exact wpAny_pure fin
  · cases hk
theorem nsDelC {M : Model} {E : Value → Shared → Prop} {a : Addr} {m : Str → Option Value} {name : Str} {Q : Bool → Shared → Prop} (hn : s.heap.Ns a m)
    (hQ : ∀ h' v, h'.Ns a (fun x => if x = name then v else m x) → Heap.SameBut a s.heap h' → (∀ o, s.heap.get? a = some o → ∃ o', h'.get? a = some o' ∧ o'.cls = o.cls) → Q (m name).isSome { s with heap := h' }) : wpAny M A (nsDel a name) Q E s := by
  obtain ⟨o, es, ep, ho, hd, hk, hm⟩ := id hn
  have hany : es.any (·.refKey) = false := by
    rw [Array.any_eq_false']; intro e he; obtain ⟨n, t, h⟩ := hk e he; simp [DictEntry.refKey, h]
  have hsome : (m name).isSome = es.any (·.key.isStr name) := by
    rw [← hm name]; simp only [nsFind, findBy, Option.isSome_map]
    rw [Bool.eq_iff_iff]; simp only [Array.find?_isSome, Array.any_eq_true]
    constructor
    · rintro ⟨x, hx, hp⟩; obtain ⟨i, hi, rfl⟩ := Array.mem_iff_getElem.mp hx; exact ⟨i, hi, hp⟩
    · rintro ⟨i, hi, hp⟩; exact ⟨_, Array.getElem_mem hi, hp⟩
  have hhas : nsHas name o = pure (es.any (·.key.isStr name)) := by
    rw [nsHas_eq]; unfold nsHasByArray; rw [hd]
    show (if (es.any fun x => x.key.isStr name) = true then _ else _) = _
    generalize (es.any fun x => x.key.isStr name) = b
    cases b <;> simp [hany]
  unfold nsDel
  refine wpAny_bind (wpAny_loadPart ho ?_)
  rw [hhas]
  refine wpAny_bind (wpAny_pure ?_)
  rw [← hsome]
  cases hmn : (m name).isSome
  · have := hQ s.heap (m name) ⟨o, es, ep, ho, hd, hk, fun x => by by_cases hx : x = name <;> simp [hx, hm]⟩ (.refl ..) fun o ho => ⟨o, ho, rfl⟩
    rw [hmn] at this
    exact wpAny_pure this
  · refine wpAny_bind (wpAny_updatePart ho (wpAny_pure ?_))
    have key : ∃ v, (s.heap.update a (Obj.dropName name)).Ns a (fun x => if x = name then v else m x) ∧ (s.heap.update a (Obj.dropName name)).get? a = some (Obj.dropName name o) := by
      obtain ⟨cl, d, dt, sl⟩ := o
      subst hd
      cases hi : es.findIdx? (·.key.isStr name) with
      | some i =>
        have g := Heap.get?_update_self (Obj.dropName name) ho (by simp only [Obj.dropName_eq, Obj.dropNameByArray, hi] <;> rfl)
        exact ⟨nsFind (es.eraseIdxIfInBounds i) name, ⟨_, _, ep + 1, g, (by simp only [Obj.dropName_eq, Obj.dropNameByArray, hi] <;> rfl), hk.erase i,
          fun x => by
            show nsFind (es.eraseIdxIfInBounds i) x = if x = name then nsFind (es.eraseIdxIfInBounds i) name else m x
            by_cases hx : x = name
            · rw [if_pos hx, hx]
            · rw [if_neg hx, nsFind_erase_other hi hx, hm]⟩, g⟩
      | none =>
        have g := Heap.get?_update_self (Obj.dropName name) ho (by simp only [Obj.dropName_eq, Obj.dropNameByArray, hi] <;> rfl)
        exact ⟨m name, ⟨_, _, ep, g, (by simp only [Obj.dropName_eq, Obj.dropNameByArray, hi] <;> rfl), hk, fun x => by by_cases hx : x = name <;> simp [hx, hm]⟩, g⟩
    obtain ⟨v, hv, hg⟩ := key
    have := hQ _ v hv (Heap.SameBut.update ..) fun o2 ho2 => ⟨_, hg, by rw [ho] at ho2; cases ho2; exact dropName_cls name o⟩
    rw [hmn] at this
    exact this
theorem SRep.goes {x : Str} {pos : Pos} {Q : Unit → Shared → Prop} (r : SRep C env ρ H s) (hl : C.sc.names.lookup x = some .local)
    (h : ∀ s', SRep C env (fun y => if y = x then none else ρ y) H s' → TExt s.heap s'.heap → Q () s') : W C A (do bindName env x .none; unbindBehindTheSuite env x pos) Q s := by
  refine wpAny_bind (r.storeL hl (v := .none) rfl fun s₁ r₁ t₁ => ?_)
  have hp : (env.scope.kind == .class || (env.scope.kind == .module && env.locals != env.globals)) = false := by rw [r.fr.kindF]; rfl
  have hko : env.kindOf x = some .local := (r.fr.kindOf x).trans hl
  obtain ⟨m, hn, hm⟩ := r₁.fr.ns
  unfold unbindBehindTheSuite
  refine wpAny_onRaise ?_
  unfold unbindName
  refine wpAny_bind (wpAny_point (wpAny_bind ?_))
  unfold deleteName
  simp only [hko, hp]
  rw [if_neg (by decide)]
  obtain ⟨cx, hcx, _⟩ := hm x .none hl (Loc.upd_self _ _ _)
  refine wpAny_bind (nsDelC hn fun h' v hn' hs hcl => ?_)
  rw [hcx]
  simp only [if_true, Option.isSome_some, Bool.not_true, Bool.false_eq_true, if_false]
  refine wpAny_pure (wpAny_point ?_)
  obtain ⟨oL, es, ep, hoL, hdL, _⟩ := id hn
  have t : TExt s₁.heap h' := TExt.but hs hoL fun vs n e => by rw [e] at hdL; cases hdL
  have hc : ∀ c v, s₁.heap.IsCell c v → h'.IsCell c v := fun c v ⟨o, ho, hd⟩ => ⟨o, (hs.2 c fun q => by rw [q, hoL] at ho; cases ho; rw [hdL] at hd; cases hd).trans ho, hd⟩
  have ho : ∀ b o, b ≠ env.locals → s₁.heap.get? b = some o → h'.get? b = some o := fun b o n e => (hs.2 b n).trans e
  refine h { s₁ with heap := h' } ⟨fun b o e => (r₁.keep b o e).step fun o' => ho b o' (fun q => by rw [q, r.fr.newL] at e; cases e), ⟨r.fr.sc, r.fr.kind, r.fr.gl, r.fr.bl, r.fr.low, ⟨_, hn', fun y w h1 h2 => ?_⟩, fun y hy => ?_, r.fr.apart, r.fr.newL, r.fr.newC, fun p hp => (let ⟨v, hv⟩ := r₁.fr.cin p hp; ⟨v, hc _ _ hv⟩), fun hst => let ⟨q1, o, q2, q3⟩ := r₁.fr.frm hst; let ⟨o', q4, q5⟩ := hcl o q2; ⟨q1, o', q4, q5.trans q3⟩⟩, r.sep, fun a o e => ?_, r₁.gens, r₁.os⟩ (t₁.trans t)
  · by_cases q : y = x
    · subst q; rw [if_pos rfl] at h2; cases h2
    · rw [if_neg q] at h2
      obtain ⟨d, h3, h4⟩ := hm y w h1 ((Loc.upd_ne _ _ q).trans h2)
      exact ⟨d, by rw [if_neg q]; exact h3, h4.t t⟩
  · obtain ⟨ca, co, h1, h2, h3⟩ := r₁.fr.cells y hy
    refine ⟨ca, co, h1, hc _ _ h2, fun v hv => ?_⟩
    by_cases q : y = x
    · subst q; rw [if_pos rfl] at hv; cases hv
    · rw [if_neg q] at hv
      obtain ⟨c, h4, h5⟩ := h3 v ((Loc.upd_ne _ _ q).trans hv)
      exact ⟨c, h4, h5.t t⟩
  · refine (r₁.hp a o e).t t fun ob g => ho a ob (fun q => ?_) g
    have := r.sep
    rw [← q, e] at this; cases this
end
end Mine
end
section
open PySem PySem.W PyProof.Rows PySem.SeqAt
open Builtin Builtin.ObjectAttr
set_option maxRecDepth 100000
set_option autoImplicit false
set_option linter.unusedVariables false
namespace Mine
theorem Flying.kept {K : ExcK} {h0 h h' : Heap} {e c d : Addr} (F : Flying K h0 h e c d true) (hk : ∀ b o, h0.get? b = none → h.get? b = some o → Kept h' b o) (hd : ∀ b, h0.get? b ≠ none → h'.get? b ≠ none) : Flying K h0 h' e c d true := by
  obtain ⟨o, vs, g, hc, hdt, hsz, h2, hcase⟩ := F.dat
  have nf : o.cls ≠ .type "frame" := by rw [hc]; exact fun q => nomatch q
  have g' : h'.get? e = some o := (hk e o F.new g).exact nf
  refine ⟨hd, F.new, ?_, fun o' dx g2 h3 => by rw [g'] at g2; cases g2; exact F.dic o dx g h3, o, vs, g', hc, hdt, hsz, h2, ?_⟩
  · obtain ⟨o1, g1, hcls, hn, hdd⟩ := F.inst
    rw [g] at g1; cases g1
    refine ⟨o, g', hcls, hn, ?_⟩
    rcases hdd with ⟨d1, d2⟩ | ⟨dx, d1, d2, d3⟩
    · exact .inl ⟨d1, d2⟩
    · obtain ⟨od, es, ep, e1, e2, e3, e4, e5⟩ := d3
      obtain ⟨od', f1, _, _, f4⟩ := (hk dx od (F.dic o dx g d1) e1).data
      exact .inr ⟨dx, d1, d2, od', es, ep, f1, f4.trans e2, e3, e4, e5⟩
  · rcases hcase with ⟨q, _⟩ | ⟨t, ot, tv, h1, gt, htc, htd, h4, hn, hte⟩
    · cases q
    · exact .inr ⟨t, ot, tv, h1, (hk t ot hn gt).exact (by rw [htc]; exact fun q => absurd (Value.type.inj q) (by decide)), htc, htd, h4, hn, hte⟩
/-- the exception is caught, or about to be -/
structure Caught (C : Cx) (env : Env) (ρ : Loc) (H : AHeap) (K : ExcK) (h0 : Heap) (ps : List (Int × Int)) (e c d : Addr) (l : List Int) (m : List (Int × Int)) (s : Shared) : Prop where
  R : SRep C env ρ H s
  F : Flying K h0 s.heap e c d true
  i : ISet C.w s.heap c l
  il : ∀ x, x ∈ l ↔ Ring ps x
  j : PSet C.w s.heap d m
  jm : ∀ p, p ∈ m ↔ p ∈ ps
  cn : h0.get? c = none
  dn : h0.get? d = none
  old : ∀ b, Bears C env H b → h0.get? b ≠ none
section
variable {C : Cx} {A : Around} {env : Env} {ρ ρ' : Loc} {H : AHeap} {s s' : Shared} {K : ExcK} {h0 : Heap} {ps : List (Int × Int)} {e c d : Addr} {l : List Int} {m : List (Int × Int)}
theorem Caught.stands (x : Caught C env ρ H K h0 ps e c d l m s) {h' : Heap} (st : Stands K h0 s.heap h') (F : Flying K h0 h' e c d true) : Caught C env ρ H K h0 ps e c d l m { s with heap := h' } :=
  ⟨x.R.moveK st.text (fun b o hb g => st b o g (.inl (x.old b hb))) x.R.gens rfl, F, st.iset x.i, x.il, st.pset x.j, x.jm, x.cn, x.dn, x.old⟩
theorem Own.bears (R : SRep C env ρ H s) {b : Addr} (h : Own env H b) : Bears C env H b := by
  rcases h with h | h | ⟨o, h, _⟩
  · exact .inl h
  · exact .inr (.inl h)
  · exact .inr (.inr (.inl (by rw [h]; exact fun w => nomatch w)))
/-- all is held but what is its own -/
theorem SRep.full (R : SRep C env ρ H s) (k : C.Ok) (hro : C.ro = false) : (C.re env H s).Ok ∧ SRep (C.re env H s) env ρ H s :=
  R.rebase (X := fun _ => False) k hro (TExt.refl _) (fun b o _ => .of) (fun b q => q.elim) R.os
theorem SRep.unfull (R : SRep C env ρ H s) (hro : C.ro = false) (R' : SRep (C.re env H s) env ρ' H s') : SRep C env ρ' H s' ∧ ∀ b o, ¬ Own env H b → s.heap.get? b = some o → Kept s'.heap b o := by
  have kp : ∀ b o, ¬ Own env H b → s.heap.get? b = some o → Kept s'.heap b o := fun b o nb g => R'.keep b o (by show reHB env H s.heap b = _; rw [reHB_not nb]; exact g)
  have hg : s'.gens = s.gens := R'.gens
  refine ⟨⟨fun b o hb => ?_, ⟨R'.fr.sc, R'.fr.kind, R'.fr.gl, R'.fr.bl, R'.fr.low, R'.fr.ns, R'.fr.cells, R'.fr.apart, R.fr.newL, R.fr.newC, R'.fr.cin, R'.fr.frm⟩, R.sep, fun a o h => ⟨(R'.hp a o h).1, (R.hp a o h).2⟩, by rw [hg]; exact R.gens, R'.os⟩, kp⟩
  obtain ⟨o', g, lk⟩ := R.keep b o hb
  obtain ⟨o2, g2, lk2⟩ := kp b o' (fun q => by rw [R.own_old hro q] at hb; cases hb) g
  exact ⟨o2, g2, lk.trans lk2⟩
theorem Caught.own (x : Caught C env ρ H K h0 ps e c d l m s) (hro : C.ro = false) (R' : SRep (C.re env H s) env ρ' H s') (t : TExt s.heap s'.heap) : Caught C env ρ' H K h0 ps e c d l m s' := by
  obtain ⟨R1, kp⟩ := x.R.unfull hro R'
  have no : ∀ b, h0.get? b = none → ¬ Own env H b := fun b hb q => x.old b (Own.bears x.R q) hb
  refine ⟨R1, x.F.kept (fun b o hb g => kp b o (no b hb) g) (fun b hb => ?_), ?_, x.il, ?_, x.jm, x.cn, x.dn, x.old⟩
  · by_cases q : Own env H b
    · exact R1.bears (Own.bears R1 q)
    · obtain ⟨o, g⟩ := Option.ne_none_iff_exists'.mp (x.F.dom b hb)
      obtain ⟨o', g', _⟩ := kp b o q g
      rw [g']; exact fun w => nomatch w
  · obtain ⟨es, ep, g, r⟩ := x.i
    exact ⟨es, ep, (kp c _ (no c x.cn) g).exact (by show (Value.type "set") ≠ _; exact fun q => absurd (Value.type.inj q) (by decide)), r⟩
  · obtain ⟨es, ep, tb, g, r, q⟩ := x.j
    exact ⟨es, ep, tb, (kp d _ (no d x.dn) g).exact (by show (Value.type "set") ≠ _; exact fun q => absurd (Value.type.inj q) (by decide)), r.t t, q⟩
theorem Caught.ext (x : Caught C env ρ H K h0 ps e c d l m s) (t : Ext s.heap s'.heap) (hg : s'.gens = s.gens) (ho : s'.os = s.os) : Caught C env ρ H K h0 ps e c d l m s' :=
  ⟨x.R.ext t (hg ▸ x.R.gens) ho, x.F.kept (fun b o _ g => .of (t b o g)) (fun b hb => t.dom b (x.F.dom b hb)), (let ⟨es, ep, g, r⟩ := x.i; ⟨es, ep, t _ _ g, r⟩), x.il, x.j.t t.t fun o => t _ o, x.jm, x.cn, x.dn, x.old⟩
theorem Caught.hok (x : Caught C env ρ H K h0 ps e c d l m s) : HOk (A.mark (some (.ref e))) s.heap := by
  obtain ⟨o, vs, g, _, hd, _, h2, _⟩ := x.F.dat
  exact .inr ⟨e, o, vs, rfl, g, hd, h2⟩
/-- told.cycles, sorted -/
theorem Caught.cycles (x : Caught C env ρ H K h0 ps e c d l m s) (k : C.Ok) (X : ExcIn K C.gb) {A : Around} {bx : Bool} {Q : Value → Shared → Prop} (hA : HOk A s.heap)
    (h : ∀ s' b vs n (ms : List Int), Caught C env ρ H K h0 ps e c d l m s' → Ext s.heap s'.heap → s.heap.get? b = none → s'.heap.get? b = some (listOf vs n) → VReps s'.heap (ms.map .int) vs.toList → ms.Perm l → ms.Pairwise (· ≤ ·) → Q (.ref b) s') :
    wpAny (model C.prog C.w) A (getAttr (.ref e) "cycles" bx) (fun v s₁ => W C A (call (.builtin "sorted") [v]) Q s₁) (fun _ _ => False) s := by
  refine exc_load (X.k (x.R.st k)) x.F.inst rfl X.cy lk_cycles ?_
  obtain ⟨es, ep, t, rs, r, l5⟩ := WSet.raw x.i
  refine raw_sorted_ints (s := { s with toks := s.toks + 1 }) hA rs r (by omega) fun h' b vs n ms xt hb g hr pm hs => ?_
  exact h _ b vs n ms (x.ext (s' := { s with toks := s.toks + 1, heap := h' }) xt rfl rfl) xt hb g hr pm hs
theorem Caught.edges (x : Caught C env ρ H K h0 ps e c d l m s) (k : C.Ok) (X : ExcIn K C.gb) {A : Around} {bx : Bool} {Q : Value → Shared → Prop} (hA : HOk A s.heap)
    (h : ∀ s' b vs n (ms : List (Int × Int)), Caught C env ρ H K h0 ps e c d l m s' → Ext s.heap s'.heap → s.heap.get? b = none → s'.heap.get? b = some (listOf vs n) → VReps s'.heap (ms.map .pair) vs.toList → ms.Perm m → ms.Pairwise (fun p q => code p ≤ code q) → m.Nodup → (∀ p ∈ m, Low5 p) → Q (.ref b) s') :
    wpAny (model C.prog C.w) A (getAttr (.ref e) "edges" bx) (fun v s₁ => W C A (call (.builtin "sorted") [v]) Q s₁) (fun _ _ => False) s := by
  refine exc_load (X.k (x.R.st k)) x.F.inst rfl X.ed lk_edges ?_
  obtain ⟨es, ep, t, rs, r, nd, h5, l5⟩ := PSet.raw x.j
  refine raw_sorted_pairs (s := { s with toks := s.toks + 1 }) hA rs r (by omega) nd h5 fun h' b vs n ms xt hb g hr pm hs => ?_
  exact h _ b vs n ms (x.ext (s' := { s with toks := s.toks + 1, heap := h' }) xt rfl rfl) xt hb g hr pm hs nd h5
end
end Mine
end
section
open PySem PySem.W PyProof.Rows PySem.SeqAt
open Builtin Builtin.ObjectAttr
set_option maxRecDepth 100000
set_option autoImplicit false
set_option linter.unusedVariables false
namespace Mine
section
variable {C : Cx} {A : Around} {env : Env} {ρ : Loc} {H : AHeap} {s : Shared}
theorem SRep.storeN {x : Str} {v : AV} {c : Value} {Q : Unit → Shared → Prop} {E : Value → Shared → Prop} (r : SRep C env ρ H s) (hl : C.sc.names.lookup x = some .local) (hv : VRep s.heap v c)
    (h : ∀ s', SRep C env (ρ.upd x v) H s' → TExt s.heap s'.heap → Q () s') : wpAny (model C.prog C.w) A (storeName env x c) Q E s := by
  obtain ⟨m, hn, hm⟩ := r.fr.ns
  rw [storeName_local ((r.fr.kindOf x).trans hl) (by rw [r.fr.kindF]; rfl)]
  refine nsSetC hn fun h' hn' hs hcl => ?_
  obtain ⟨oL, es, ep, hoL, hdL, _⟩ := id hn
  have t : TExt s.heap h' := TExt.but hs hoL fun vs n e => by rw [e] at hdL; cases hdL
  have hc : ∀ c v, s.heap.IsCell c v → h'.IsCell c v := fun c v ⟨o, ho, hd⟩ => ⟨o, (hs.2 c fun q => by rw [q, hoL] at ho; cases ho; rw [hdL] at hd; cases hd).trans ho, hd⟩
  have ho : ∀ b o, b ≠ env.locals → s.heap.get? b = some o → h'.get? b = some o := fun b o n e => (hs.2 b n).trans e
  refine h _ ⟨fun b o e => (r.keep b o e).step fun o' => ho b o' (fun q => by rw [q, r.fr.newL] at e; cases e), ⟨r.fr.sc, r.fr.kind, r.fr.gl, r.fr.bl, r.fr.low, ⟨_, hn', fun y w h1 h2 => ?_⟩, fun y hy => ?_, r.fr.apart, r.fr.newL, r.fr.newC, fun p hp => (let ⟨v, hv⟩ := r.fr.cin p hp; ⟨v, hc _ _ hv⟩), fun hst => let ⟨q1, o, q2, q3⟩ := r.fr.frm hst; let ⟨o', q4, q5⟩ := hcl o q2; ⟨q1, o', q4, q5.trans q3⟩⟩, r.sep, fun a o e => ?_, r.gens, r.os⟩ t
  · by_cases q : y = x
    · subst q; rw [Loc.upd_self] at h2; cases h2; exact ⟨c, by simp, hv.t t⟩
    · rw [Loc.upd_ne _ _ q] at h2
      obtain ⟨d, h3, h4⟩ := hm y w h1 h2
      exact ⟨d, by simpa [q] using h3, h4.t t⟩
  · obtain ⟨ca, co, h1, h2, h3⟩ := r.fr.cells y hy
    refine ⟨ca, co, h1, hc _ _ h2, fun w hw => ?_⟩
    have q : y ≠ x := by rintro rfl; rcases hy with e | e <;> rw [hl] at e <;> cases e
    rw [Loc.upd_ne _ _ q] at hw
    obtain ⟨d, h4, h5⟩ := h3 w hw
    exact ⟨d, h4, h5.t t⟩
  · have na : a ≠ env.locals := by rintro rfl; rw [r.sep] at e; cases e
    exact (r.hp a o e).t t fun o => ho a o na
/-- what is left of the names when told goes -/
def Loc.drop (ρ : Loc) (x : Str) : Loc := fun y => if y = x then none else ρ y
theorem TS_try {ps : List (Int × Int)} {its : List Int} {ta aa : Addr} {LL : List (List Int)} {bad : Bool} {K : ExcK} {fv : Value} {b₀ : Stmt} {body : List Stmt} {p1 p2 p3 p4 p5 p6 p7 p8 p9 q1 q2 : Pos} {n1 n2 : Str} {Q : AFlow → Loc → AHeap → Prop}
    (k : C.Ok) (hst : C.stk = true) (hro : C.ro = false) (hgp : ∀ a b, grow a b → C.gp a → C.gp b) (fs : Fns C.G C.gb) (X : ExcIn K C.gb) (excG : C.G "CircularDependencyError" = some (.ref K.C))
    (subs : ∃ f, C.G "sort_as_subsets" = some f ∧ FnAt C.gb f 4 ["tuples", "allitems"]) (hsortG : C.G "sort" = some fv) (hsort : SortAt C.gb fv) (room : 12 < C.room)
    (g1 : glOk C.sc "list" = true) (g2 : glOk C.sc "sort" = true) (g3 : glOk C.sc "CircularDependencyError" = true) (l1 : stOk C "laid" = true) (l2 : C.sc.names.lookup ("told" : Str) = some NameKind.local)
    (d1 : ldOk C.sc n1 = true) (r1 : ρ n1 = some (.ref ta)) (d2 : ldOk C.sc n2 = true) (r2 : ρ n2 = some (.ref aa)) (hta : H ta = some (.ro (ps.map .pair))) (haa : H aa = some (.ro (its.map .int)))
    (len : ps.length < 100) (inn : ∀ p ∈ ps, (0 ≤ p.1 ∧ p.1 < 5) ∧ 0 ≤ p.2 ∧ p.2 < 5) (cnt : ∀ ks : List Int, ks.Nodup → (ks.map fun x => (par ps x).length).sum < 12) (hit : ∀ x ∈ its, 0 ≤ x ∧ x < 5) (hnd : its.Nodup) (lays : Lays ps its LL bad) (few : LL.flatten.length < 1000)
    (hsw : ∀ env : Env, swapsWith (.Call (.Name "list" p2) [.Call (.Name "sort" p3) [.Name n1 q1, .Name n2 q2] [] p4] [] p5) (some (.Name "laid" p1)) p6.line env = pure false)
    (hok : bad = false → ∀ S, H S = none → Q .next (ρ.upd "laid" (.ref S)) (H.upd S (.list (LL.flatten.map .int))))
    (hsuite : bad = true → ∀ A e c d l m h0 s, HOk A s.heap → Caught C env (ρ.upd "told" (.ref e)) H K h0 ps e c d l m s → wpAny (model C.prog C.w) A (execs (b₀ :: body) env) (fun f s' => f = .next ∧ ∃ ρ' H', SRep C env ρ' H' s' ∧ Q .next (ρ'.drop "told") H') (fun _ _ => False) s)
    (ok : AOk C A env) (R : SRep C env ρ H s) :
    W C A (exec (.Try [.Assign [.Name "laid" p1] (.Call (.Name "list" p2) [.Call (.Name "sort" p3) [.Name n1 q1, .Name n2 q2] [] p4] [] p5) p6] [.ExceptHandler (some (.Name "CircularDependencyError" p7)) (some "told") (b₀ :: body) p8] [] [] p9) env) (EndF C env Q) s := by
  rw [arm_exec_Try]
  refine wpAny_bind (wpAny_standAt (wpAny_tryStmt_except (wpAny_execs_cons ?_)))
  rw [exec_Assign_Name env "laid" p1 _ p6 (hsw env)]
  refine wpAny_bind (wpAny_standAt (wpAny_bind ?_))
  refine wpAny_Call_NameR (TN_global k g1 fs.list R ?_)
  refine PySem.callWith_type (by rfl) (Calls.evalArgs_plain (Calls.spliced_cons ?_))
  refine wpAny_Call_NameR (TN_global k g2 hsortG R ?_)
  obtain ⟨fa, o, fd, hfv, g, dd, hcl, _⟩ := id hsort
  have hnf : o.cls ≠ .type "frame" := by rw [hcl]; exact fun q => absurd (Value.type.inj q) (by decide)
  have hgo : s.heap.get? fa = some o := (R.st k fa o g).exact hnf
  rw [hfv]
  refine Calls.callWith_function (o := o) (fd := fd) (Calls.evalArgs_plain (Calls.spliced_cons (TN_name d1 r1 R fun c1 hc1 => Calls.spliced_cons (TN_name d2 r2 R fun c2 hc2 => Calls.spliced_nil ⟨⟨hgo, dd⟩, ?_⟩))))
  obtain rfl := hc1
  obtain rfl := hc2
  obtain ⟨outer, hfr, frs⟩ := frames_ok (ρ := ρ) (H := H) (s := s) ok hst
  have go := sort_list (A := A) (fv := fv) (K := K) (ps := ps) (its := its) (LL := LL) (bad := bad)
    (Q := fun v s₁ => W C A (bindName env "laid" v) (fun _ s₂ => EndF C env Q .next s₂) s₁)
    (E := fun x s₁ => bad = true ∧ ∃ e, x = .ref e ∧ SRep C env ρ H s₁ ∧ Told K C.w s.heap ps s₁.heap e)
    k ok R hst hgp fs X excG subs hsort room hta haa len inn cnt hit hnd lays few (fun S s' hb hn R' => R'.store l1 (v := .ref S) rfl fun s'' R'' _ => ⟨.next, _, _, rfl, R'', hok hb S hn⟩) fun e s' hb R' T => ⟨hb, e, rfl, R', T⟩
  rw [hfv] at go
  have hE : ∀ x s₁, (bad = true ∧ ∃ e, x = .ref e ∧ SRep C env ρ H s₁ ∧ Told K C.w s.heap ps s₁.heap e) → wpAny (model C.prog C.w) A (noteFrame x env) (fun _ s₂ => wpAny (model C.prog C.w) A (setFlight x none) (fun _ s₃ =>
      wpAny (model C.prog C.w) A (handleBy x env [.ExceptHandler (some (.Name "CircularDependencyError" p7)) (some "told") (b₀ :: body) p8]) (EndF C env Q) (fun _ _ => False) s₃) (fun _ _ => False) s₂) (fun _ _ => False) s₁ := by
    rintro x s₁ ⟨hb, e, rfl, R₁, c, d, l, m, F, nn, i1, i2, j1, j2⟩
    have ct : Caught C env ρ H K s.heap ps e c d l m s₁ := ⟨R₁, F, i1, i2, j1, j2, nn.1, nn.2, fun b hb => R.bears hb⟩
    refine note_ok ct.F hfr List.mem_cons_self (frs s₁ R₁) fun h1 st1 F1 hl1 => ?_
    have ct1 := ct.stands st1 F1
    refine flight_ok (s := { s₁ with heap := h1 }) F1 hl1 fun h2 st2 F2 hl2 => ?_
    have ct2 := ct1.stands (h' := h2) st2 F2
    generalize hs2 : ({ s₁ with heap := h2 } : Shared) = s₂ at ct2
    have X2 : ExcIn K s₂.heap := X.k (ct2.R.st k)
    obtain ⟨oe, vs, ge, gc, gd, _⟩ := ct2.F.dat
    refine wpAny_handleBy_cons (codeAny_handlers_test (TN_global (A := A.mark (some (.ref e))) k g3 excG ct2.R ?_)) (by intro q; cases q)
    refine wpAny_excMatches_sub_self X2.cls ge gc (by decide) ?_
    refine codeAny_handlers_suite_as ?_
    refine flight_ok (s := s₂) (stack := env :: outer) ct2.F (frs s₂ ct2.R) fun h3 st3 F3 hl3 => ?_
    have ct3 := ct2.stands st3 F3
    generalize hs3 : ({ s₂ with heap := h3 } : Shared) = s₃ at ct3
    obtain ⟨k3, R3⟩ := ct3.R.full k hro
    refine SRep.storeN (C := C.re env H s₃) R3 l2 (v := .ref e) rfl fun s₄ R4 t4 => ?_
    have ct4 := ct3.own hro R4 t4
    refine wpAny_mono (hsuite hb (A.mark (some (.ref e))) e c d l m s.heap s₄ ct4.hok ct4) (fun f s₅ ⟨hf, ρ', H', R5, hq⟩ => ?_) fun _ _ x => x.elim
    subst hf
    exact SRep.goes R5 l2 fun s₆ R6 _ => ⟨.next, _, _, rfl, R6, hq⟩
  refine wpAny_mono go (fun v s₁ h₁ => ?_) fun x s₁ hx => hE x s₁ hx
  refine Calls.spliced_nil ?_
  refine wpAny_mono h₁ (fun v s₂ h₂ => ?_) fun x s₁ hx => hE x s₁ hx
  refine wpAny_bind (wpAny_standAt (wpAny_bind (wpAny_mono h₂ (fun _ s₃ h₃ => ?_) fun _ _ x => x.elim)))
  refine wpAny_pure (wpAny_execs_nil ?_)
  exact wpAny_execs_nil h₃
end
end Mine
end
section
open PySem PySem.W PyProof.Rows PySem.SeqAt
open Builtin Builtin.ObjectAttr
set_option maxRecDepth 100000
set_option autoImplicit false
set_option linter.unusedVariables false
namespace Mine
section
variable {C : Cx} {A : Around} {env : Env} {ρ ρ' : Loc} {H : AHeap} {s s' : Shared} {K : ExcK} {h0 : Heap} {ps : List (Int × Int)} {e c d : Addr} {l : List Int} {m : List (Int × Int)}
theorem sorted_cycles (x : Caught C env ρ H K h0 ps e c d l m s) (k : C.Ok) (X : ExcIn K C.gb) (fs : Fns C.G C.gb) (hA : HOk A s.heap) (g1 : glOk C.sc "sorted" = true) (d1 : ldOk C.sc "told" = true) (r1 : ρ "told" = some (.ref e)) {p q r pos : Pos} {Q : Value → Shared → Prop}
    (h : ∀ s' b vs n (ms : List Int), Caught C env ρ H K h0 ps e c d l m s' → Ext s.heap s'.heap → s.heap.get? b = none → s'.heap.get? b = some (listOf vs n) → VReps s'.heap (ms.map .int) vs.toList → ms.Perm l → ms.Pairwise (· ≤ ·) → Q (.ref b) s') :
    W C A (eval (.Call (.Name "sorted" p) [.Attribute (.Name "told" q) "cycles" r] [] pos) env) Q s := by
  refine wpAny_Call_NameR (TN_global k g1 fs.sorted x.R ?_)
  refine Calls.callWith_builtin (by rfl) (Calls.evalArgs_plain (Calls.spliced_cons ?_))
  rw [arm_eval_Attribute]
  refine wpAny_bind (show wpAny _ A (eval (.Name "told" q) env) _ _ s from TN_name d1 r1 x.R fun c1 hc1 => ?_)
  obtain rfl := hc1
  refine wpAny_bind (wpAny_standAt (wpAny_bind (wpAny_holding (wpAny_mono (x.cycles k X hA h) (fun v s₁ h₁ => ?_) fun _ _ x => x.elim))))
  refine wpAny_bind (wpAny_of_eq (a := ()) rfl (wpAny_pure (Calls.spliced_nil ?_)))
  exact h₁
theorem sorted_edges (x : Caught C env ρ H K h0 ps e c d l m s) (k : C.Ok) (X : ExcIn K C.gb) (fs : Fns C.G C.gb) (hA : HOk A s.heap) (g1 : glOk C.sc "sorted" = true) (d1 : ldOk C.sc "told" = true) (r1 : ρ "told" = some (.ref e)) {p q r pos : Pos} {Q : Value → Shared → Prop}
    (h : ∀ s' b vs n (ms : List (Int × Int)), Caught C env ρ H K h0 ps e c d l m s' → Ext s.heap s'.heap → s.heap.get? b = none → s'.heap.get? b = some (listOf vs n) → VReps s'.heap (ms.map .pair) vs.toList → ms.Perm m → ms.Pairwise (fun p q => code p ≤ code q) → m.Nodup → (∀ p ∈ m, Low5 p) → Q (.ref b) s') :
    W C A (eval (.Call (.Name "sorted" p) [.Attribute (.Name "told" q) "edges" r] [] pos) env) Q s := by
  refine wpAny_Call_NameR (TN_global k g1 fs.sorted x.R ?_)
  refine Calls.callWith_builtin (by rfl) (Calls.evalArgs_plain (Calls.spliced_cons ?_))
  rw [arm_eval_Attribute]
  refine wpAny_bind (show wpAny _ A (eval (.Name "told" q) env) _ _ s from TN_name d1 r1 x.R fun c1 hc1 => ?_)
  obtain rfl := hc1
  refine wpAny_bind (wpAny_standAt (wpAny_bind (wpAny_holding (wpAny_mono (x.edges k X hA h) (fun v s₁ h₁ => ?_) fun _ _ x => x.elim))))
  refine wpAny_bind (wpAny_of_eq (a := ()) rfl (wpAny_pure (Calls.spliced_nil ?_)))
  exact h₁
theorem SRep.addNew (R : SRep C env ρ H s) {b : Addr} {o : AObj} {h₁ : Heap} (old : ∀ a, Bears C env H a → h₁.get? a ≠ none) (hb : h₁.get? b = none) (hz : o.fz = false) (sh : Shape C.w s.heap b o) : H b = none ∧ SRep C env ρ (H.upd b o) s := by
  have nb : ¬ Bears C env H b := fun q => old b q hb
  have hH : H b = none := Classical.byContradiction fun q => nb (.inr (.inr (.inl q)))
  have hB : C.hB b = none := Classical.byContradiction fun q => nb (.inr (.inr (.inr q)))
  exact ⟨hH, R.add (o := o) ⟨sh, by unfold Place; rw [hz]; exact hB⟩ fun q => nb (.inl q)⟩
/-- cycles, edges = (sorted(told.cycles), sorted(told.edges)) -/
theorem suite_right (x : Caught C env ρ H K h0 ps e c d l m s) (k : C.Ok) (X : ExcIn K C.gb) (fs : Fns C.G C.gb) (hA : HOk A s.heap) (g1 : glOk C.sc "sorted" = true) (d1 : ldOk C.sc "told" = true) (r1 : ρ "told" = some (.ref e)) {kk : Nat} {p1 p2 q1 q2 q3 q4 q5 q6 q7 q8 p3 p4 p5 : Pos} {k2 : Nat}
    (hs : ∀ env : Env, swapsWithSole [.Tuple [.Name "cycles" p1, .Name "edges" p2] kk p3] (.Tuple [.Call (.Name "sorted" q1) [.Attribute (.Name "told" q2) "cycles" q3] [] q4, .Call (.Name "sorted" q5) [.Attribute (.Name "told" q6) "edges" q7] [] q8] k2 p4) p5.line env = pure false)
    (hw : ∀ env : Env, env.scope = C.sc → swappedStores [.Tuple [.Name "cycles" p1, .Name "edges" p2] kk p3] (.Tuple [.Call (.Name "sorted" q1) [.Attribute (.Name "told" q2) "cycles" q3] [] q4, .Call (.Name "sorted" q5) [.Attribute (.Name "told" q6) "edges" q7] [] q8] k2 p4) env = pure (some (["cycles", "edges"] : List Str)))
    (st : ∀ x ∈ (["cycles", "edges"] : List Str), stOk C x = true) :
    W C A (execs [.Assign [.Tuple [.Name "cycles" p1, .Name "edges" p2] kk p3] (.Tuple [.Call (.Name "sorted" q1) [.Attribute (.Name "told" q2) "cycles" q3] [] q4, .Call (.Name "sorted" q5) [.Attribute (.Name "told" q6) "edges" q7] [] q8] k2 p4) p5] env)
      (fun f s' => f = .next ∧ ∃ (b1 b2 : Addr) (ms : List Int) (mm : List (Int × Int)), H b1 = none ∧ H b2 = none ∧ b1 ≠ b2 ∧ SRep C env ((ρ.upd "edges" (.ref b2)).upd "cycles" (.ref b1)) ((H.upd b1 (.list (ms.map .int))).upd b2 (.list (mm.map .pair))) s' ∧
        ms.Perm l ∧ ms.Pairwise (· ≤ ·) ∧ mm.Perm m ∧ mm.Pairwise (fun p q => code p ≤ code q) ∧ m.Nodup ∧ ∀ p ∈ m, Low5 p) s := by
  refine wpAny_execs_cons ?_
  rw [arm_exec_Assign]
  refine wpAny_bind (wpAny_standAt ?_)
  rw [hs env]
  refine wpAny_bind (wpAny_pure ?_)
  rw [if_neg (by decide)]
  refine wpAny_bind (Tuple_ (Calls.spliced_cons (sorted_cycles x k X fs hA g1 d1 r1 fun s₁ b1 vs1 n1 ms x1 e1 nb1 gb1 v1 pm1 so1 => ?_)))
  have hA1 : HOk A s₁.heap := hA.ext fun e oe _ g => e1 e oe g
  refine Calls.spliced_cons (sorted_edges x1 k X fs hA1 g1 d1 r1 fun s₂ b2 vs2 n2 mm x2 e2 nb2 gb2 v2 pm2 so2 nd5 l5 => ?_)
  refine Calls.spliced_nil (wpAny_newTuple ?_ (by show 2 ≤ sizeLine; decide))
  rw [hw env x.R.fr.sc]
  refine wpAny_bind (wpAny_pure ?_)
  unfold assignStores
  dsimp only
  refine wpAny_bind (wpAny_rule ?_)
  have hA2 : HOk A s₂.heap := hA1.ext fun e oe _ g => e2 e oe g
  have hA3 : HOk A (s₂.heap.push (tupObj #[.ref b1, .ref b2] 0)) := hA2.ext fun e oe _ g => Heap.get?_push_of_some _ g
  refine wpAny_bind (unpackItems_raw (items := #[.ref b1, .ref b2]) hA3 ⟨_, Heap.get?_push_size _ rfl, rfl, 0, rfl⟩ fun h' hh => ?_)
  have e3 : Ext s₂.heap h' := fun b o g => hh b o (Nat.ne_of_lt (Nat.lt_succ_of_lt (Heap.lt_size g) |> fun q => by rw [Heap.size_push]; exact q)) (Heap.get?_push_of_some _ g)
  have R3 : SRep C env ρ H { s₂ with heap := h' } := x2.R.ext e3 x2.R.gens rfl
  have hb12 : b1 ≠ b2 := fun q => by rw [← q, gb1] at nb2; cases nb2
  obtain ⟨hH1, R4⟩ := R3.addNew (b := b1) (o := .list (ms.map .int)) (h₁ := s.heap) (fun a q => x.R.bears q) nb1 rfl ⟨vs1, n1, e3 _ _ (e2 _ _ gb1), v1.t (e2.t.trans e3.t)⟩
  have hH2' : H b2 = none := Classical.byContradiction fun q => x1.R.bears (.inr (.inr (.inl q))) nb2
  obtain ⟨hH2, R5⟩ := R4.addNew (b := b2) (o := .list (mm.map .pair)) (h₁ := s₁.heap) (fun a q => by
    by_cases w : a = b1
    · rw [w, gb1]; exact fun w => nomatch w
    · refine x1.R.bears ?_
      rcases q with q | q | q | q
      · exact .inl q
      · exact .inr (.inl q)
      · exact .inr (.inr (.inl (by rwa [AHeap.upd_ne _ _ w] at q)))
      · exact .inr (.inr (.inr q))) nb2 rfl ⟨vs2, n2, e3 _ _ gb2, v2.t e3.t⟩
  have bn : ∀ l : List Str, Binds env (l.map fun n => bindName env n) l := fun l => by
    induction l with
    | nil => exact .nil
    | cons x l ih => exact .name (.inl rfl) ih
  refine wpAny_bind (assign_in_order (xs := ["edges", "cycles"]) (vs := [.ref b2, .ref b1]) (bn _) R5 (fun x hx => st x (by simp at hx ⊢; exact hx.symm)) rfl ⟨rfl, rfl, trivial⟩ fun s' R' t => wpAny_pure (wpAny_execs_nil ⟨rfl, b1, b2, ms, mm, hH1, hH2', hb12, R', pm1, so1, pm2, so2, nd5, l5⟩))
end
end Mine
end
section
open PySem PySem.W PyProof.Rows PySem.SeqAt
set_option maxRecDepth 100000
set_option autoImplicit false
set_option linter.unusedVariables false
namespace Mine
theorem foldP_nodup : ∀ {l S : List (Int × Int)}, S.Nodup → (l.foldl insP S).Nodup
  | [], S, h => h
  | k :: l, S, h => by
    rw [List.foldl_cons]
    refine foldP_nodup ?_
    unfold insP
    split
    · exact h
    · rename_i hk
      rw [List.nodup_append]
      exact ⟨h, by simp, fun a ha b hb e => by simp at hb; subst hb; subst e; exact hk ha⟩
/-- what the law's own defs need of the text -/
structure LawEnv (C : Cx) (K : ExcK) : Prop where
  fs : Fns C.G C.gb
  exc : ExcIn K C.gb
  excG : C.G "CircularDependencyError" = some (.ref K.C)
  subs : ∃ f, C.G "sort_as_subsets" = some f ∧ FnAt C.gb f 4 ["tuples", "allitems"]
  sortG : ∃ fv, C.G "sort" = some fv ∧ SortAt C.gb fv
  gp : ∀ a b, grow a b → C.gp a → C.gp b
  stk : C.stk = true
/-- what may be sorted -/
structure SortOk (ps : List (Int × Int)) (its : List Int) (LL : List (List Int)) (bad : Bool) : Prop where
  len : ps.length < 12
  inn : ∀ p ∈ ps, (0 ≤ p.1 ∧ p.1 < 5) ∧ 0 ≤ p.2 ∧ p.2 < 5
  cnt : ∀ ks : List Int, ks.Nodup → (ks.map fun x => (par ps x).length).sum < 12
  hit : ∀ x ∈ its, 0 ≤ x ∧ x < 5
  hnd : its.Nodup
  lays : Lays ps its LL bad
  few : LL.flatten.length < 64
section
variable {C : Cx} {A : Around} {env : Env} {ρ : Loc} {H : AHeap} {s : Shared} {K : ExcK}
variable {ps : List (Int × Int)} {its : List Int} {LL : List (List Int)} {bad : Bool}
theorem right_rest (fs : Fns C.G C.gb) (k : C.Ok) (hr : 0 < C.room) (hsc : C.sc = fnS 14) (hro : C.ro = false) {pa ta ra h1 h2 cy ed la : Addr} {rs cs ls : List Int} {es : List (Int × Int)} (so : SortOk ps its LL bad)
    (r1 : ρ "pairs" = some (.ref pa)) (r2 : ρ "tables" = some (.ref ta)) (r3 : ρ "rings" = some (.ref ra)) (r4 : ρ "handed" = some (.ref h1)) (r5 : ρ "stood" = some (.ref h2)) (r6 : ρ "cycles" = some (.ref cy)) (r7 : ρ "edges" = some (.ref ed)) (r8 : ρ "laid" = some (.ref la))
    (i1 : H.items pa = some (ps.map .pair)) (i2 : H.items ta = some (its.map .int)) (i3 : H.items ra = some (rs.map .int)) (i4 : H.items h1 = some (ps.map .pair)) (i5 : H.items h2 = some (its.map .int)) (i6 : H.items cy = some (cs.map .int)) (i7 : H.items ed = some (es.map .pair)) (i8 : H.items la = some (ls.map .int))
    (hl : ls.length < 64) (l3 : its.length < 64) (c1 : cs = rs) (c2 : rs ≠ [] → es.Nodup ∧ (∀ p, p ∈ es ↔ p ∈ ps) ∧ es.Pairwise (fun p q => code p ≤ code q)) (c3 : rs = [] → laidOk ps its [] ls = true ∧ ls.Perm its) :
    TSs C ((fnB 14).drop 3) ρ H fun f ρ' H' => f = .ret (.bool true) := by
  subst c1
  have hsl : sizeLine = 2 ^ 24 := rfl
  have len := so.len
  unfold fnB
  refine TSs_cons (TS_if (TT_bool (TAll_or (TT_cmp rfl (TE_name (ld_of hsc rfl) (v := .ref h1) (by exact r4) (TE_name (ld_of hsc rfl) (v := .ref pa) (by exact r1) (T2_nel keyedPair (f := AV.pair) (xs := ps) (ys := ps) i4 i1 ⟨_, rfl, ?_⟩)))))))
  rw [dt _ rfl, if_neg (by decide)]
  refine TAll_or (TT_cmp rfl (TE_name (ld_of hsc rfl) (v := .ref h2) (by exact r5) (TE_name (ld_of hsc rfl) (v := .ref ta) (by exact r2) (T2_nel keyedInt (f := AV.int) (xs := its) (ys := its) i5 i2 ⟨_, rfl, ?_⟩))))
  rw [dt _ rfl, if_neg (by decide)]
  refine TAll_or (TT_cmp rfl (TE_name (ld_of hsc rfl) (v := .ref cy) (by exact r6) (TE_name (ld_of hsc rfl) (v := .ref ra) (by exact r3) (T2_nel keyedInt (f := AV.int) (xs := cs) (ys := cs) i6 i3 ⟨_, rfl, ?_⟩))))
  rw [dt _ rfl, if_neg (by decide)]
  refine TAll_nil ?_
  rw [if_neg (by decide)]
  refine TSs_nil (TSs_cons (TS_if (TT_cmp rfl (TE_name (ld_of hsc rfl) (v := .ref ra) (by exact r3) (TE_list (TEs_nil ⟨by decide, fun e0 he0 => ?_⟩))))))
  have off : ∀ {a : Addr} {xs : List AV} {o : AObj}, H.items a = some xs → (H.upd e0 o).items a = some xs := fun {a xs o} h => by
    unfold AHeap.items at h ⊢
    rw [AHeap.upd_ne _ _ fun q => by rw [q, he0] at h; cases h]
    exact h
  refine T2_nel keyedInt (f := AV.int) (xs := cs) (ys := []) (off i3) (by unfold AHeap.items; rw [AHeap.upd_self]; rfl) ⟨_, rfl, ?_⟩
  by_cases c : cs = []
  · rw [dt _ c, if_neg (by decide)]
    obtain ⟨m1, m2⟩ := c3 c
    obtain ⟨fm, hfm, Fm⟩ := fs.made
    refine TSs_nil (TSs_cons (TS_ret (TE_call k (gl_of hsc rfl) hfm Fm.callee (fun env => ⟨_, _, rfl, rfl⟩) (TEs_cons (fun env => rfl) (TE_name (ld_of hsc rfl) (v := .ref la) (by exact r8) (TEs_cons (fun env => rfl) (TE_name (ld_of hsc rfl) (v := .ref pa) (by exact r1) (TEs_cons (fun env => rfl) (TE_name (ld_of hsc rfl) (v := .ref ta) (by exact r2) (TEs_nil ?_))))))))))
    refine TC_made (ps := ps) (ts := its) (laid := ls) Fm fs k hr (off i8) (off i1) (off i2) hl (by omega) l3 ?_
    rw [m1, dt _ m2]; rfl
  · rw [df _ c, if_pos (by decide)]
    obtain ⟨e1, e2, e3⟩ := c2 c
    refine TSs_cons (TS_ret (TE_cmp rfl (TE_name (ld_of hsc rfl) (v := .ref ed) (by exact r7) (TE_call k (gl_of hsc rfl) fs.sorted trivial (fun env => ⟨_, _, rfl, rfl⟩) (TEs_cons (fun env => rfl) (TE_call k (gl_of hsc rfl) fs.set trivial (fun env => ⟨_, _, rfl, rfl⟩) (TEs_cons (fun env => rfl) (TE_name (ld_of hsc rfl) (v := .ref pa) (by exact r1) (TEs_nil ?_)))))))))
    refine TC_set_list setKP (xs := ps) (off i1) (fun p hp => so.inn p hp) (by omega) fun b hb => TEs_nil ?_
    have off2 : ∀ {a : Addr} {xs : List AV} {o : AObj}, (H.upd e0 (.list [])).items a = some xs → ((H.upd e0 (.list [])).upd b o).items a = some xs := fun {a xs o} h => by
      unfold AHeap.items at h ⊢
      rw [AHeap.upd_ne _ _ fun q => by rw [q, hb] at h; cases h]
      exact h
    refine TC_sorted_pset (AHeap.upd_self _ _ _) fun r ms hrn pm sm => ?_
    have off3 : ∀ {a : Addr} {xs : List AV} {o : AObj}, ((H.upd e0 (.list [])).upd b (.pset (ps.foldl insP []))).items a = some xs → (((H.upd e0 (.list [])).upd b (.pset (ps.foldl insP []))).upd r o).items a = some xs := fun {a xs o} h => by
      unfold AHeap.items at h ⊢
      rw [AHeap.upd_ne _ _ fun q => by rw [q, hrn] at h; cases h]
      exact h
    refine T2_eql keyedPair (f := AV.pair) (xs := es) (ys := ms) (off3 (off2 (off i7))) (by unfold AHeap.items; rw [AHeap.upd_self]; rfl) ?_
    have pe : es.Perm (ps.foldl insP []) := by
      rw [List.perm_ext_iff_of_nodup e1 (foldP_nodup List.nodup_nil)]
      intro p
      rw [e2, mem_foldP]; simp
    have : es = ms := codeSort_uniq (l := ps.foldl insP []) (fun p hp => so.inn p (by rw [mem_foldP] at hp; simpa using hp)) pe e3 pm sm
    rw [dt _ this]
theorem LawEnv.holds (L : LawEnv C K) (F : Addr → Option Obj) : LawEnv (C.holds F) K := ⟨L.fs, L.exc, L.excG, L.subs, L.sortG, L.gp, L.stk⟩
theorem lt_nodup {l : List Int} (h : l.Pairwise (· < ·)) : l.Nodup := List.Pairwise.imp (fun {a b} q => Int.ne_of_lt q) h
theorem items_upd {X : AHeap} {a e0 : Addr} {xs : List AV} {o : AObj} (h : X.items a = some xs) (e : X e0 = none) : (X.upd e0 o).items a = some xs := by
  unfold AHeap.items at h ⊢
  rw [AHeap.upd_ne _ _ fun q => by rw [q, e] at h; cases h]
  exact h
theorem items_fz {X : AHeap} {a : Addr} {xs : List AV} {L : List Addr} (h : X.items a = some xs) : (X.fz L).items a = some xs := by
  unfold AHeap.items AHeap.fz at *
  split
  · cases e : X a with
    | none => rw [e] at h; cases h
    | some o => rw [e] at h; cases o <;> first | exact h | cases h
  · exact h
theorem items_fz_in {X : AHeap} {a : Addr} {xs : List AV} {L : List Addr} (h : X.items a = some xs) (m : a ∈ L) : (X.fz L) a = some (.ro xs) := by
  unfold AHeap.items at h
  unfold AHeap.fz
  rw [if_pos m]
  cases e : X a with
  | none => rw [e] at h; cases h
  | some o => rw [e] at h; cases o <;> first | (cases h; rfl) | cases h
theorem items_self {X : AHeap} {a : Addr} {xs : List AV} : (X.upd a (.list xs)).items a = some xs := by unfold AHeap.items; rw [AHeap.upd_self]; rfl
theorem right_walk (L : LawEnv C K) (k : C.Ok) (hr : 12 < C.room) (hsc : C.sc = fnS 14) (hro : C.ro = false) (so : SortOk ps its LL bad) {pa ta ra : Addr} {rs : List Int}
    (r1 : ρ "pairs" = some (.ref pa)) (r2 : ρ "tables" = some (.ref ta)) (r3 : ρ "rings" = some (.ref ra)) (i1 : H pa = some (.ro (ps.map .pair))) (i2 : H ta = some (.ro (its.map .int))) (i3 : H ra = some (.ro (rs.map .int)))
    (good0 : bad = false → rs = [] ∧ laidOk ps its [] LL.flatten = true ∧ LL.flatten.Perm its) (good1 : bad = true → rs ≠ [] ∧ rs.Pairwise (· < ·) ∧ ∀ x, x ∈ rs ↔ Ring ps x) :
    TSs C (fnB 14) ρ H fun f ρ' H' => f = .ret (.bool true) := by
  have hsl : sizeLine = 2 ^ 24 := rfl
  have len := so.len
  have hl5 := le5 so.hnd so.hit
  obtain ⟨fv, hfv, Sf⟩ := L.sortG
  show TSs C (fnB 14) ρ H _
  rw [show fnB 14 = (fnB 14).take 2 ++ (fnB 14).drop 2 from rfl]
  refine TSs_cons (TS_assignS (xs := ["handed", "stood"]) (fun env => rfl) (fun env e => by obtain ⟨⟩ := env; cases (show _ = fnS 14 from e.trans hsc); rfl) (fun x hx => ?_) (TE_tuple (TEs_cons (fun env => rfl) (TE_call k (gl_of hsc rfl) L.fs.list trivial (fun env => ⟨_, _, rfl, rfl⟩) (TEs_cons (fun env => rfl) (TE_name (ld_of hsc rfl) (v := .ref pa) (by exact r1) (TEs_nil (TC_list (xs := ps.map .pair) (by unfold AHeap.items; rw [i1]; rfl) (by simp; omega) fun h1 hh1 => ?_))))))))
  · rcases (by simpa using hx) with rfl | rfl
    · exact st_of hsc hro rfl
    · exact st_of hsc hro rfl
  have off1 : ∀ {b : Addr} {o o' : AObj}, H b = some o → (H.upd h1 o') b = some o := fun {b o o'} h => by rw [AHeap.upd_ne _ _ fun q => by rw [q, hh1] at h; cases h]; exact h
  refine TEs_cons (fun env => rfl) (TE_call k (gl_of hsc rfl) L.fs.list trivial (fun env => ⟨_, _, rfl, rfl⟩) (TEs_cons (fun env => rfl) (TE_name (ld_of hsc rfl) (v := .ref ta) (by exact r2) (TEs_nil (TC_list (xs := its.map .int) (by unfold AHeap.items; rw [off1 i2]; rfl) (by simp; omega) fun h2 hh2 => TEs_nil ⟨[.ref h1, .ref h2], rfl, by show 2 ≤ sizeLine; decide, _, rfl, rfl, ?_⟩)))))
  have off2 : ∀ {b : Addr} {o o' : AObj}, (H.upd h1 (.list (ps.map .pair))) b = some o → ((H.upd h1 (.list (ps.map .pair))).upd h2 o') b = some o := fun {b o o'} h => by rw [AHeap.upd_ne _ _ fun q => by rw [q, hh2] at h; cases h]; exact h
  refine TSs_cons (TS_assignS (xs := ["cycles", "edges", "laid"]) (fun env => rfl) (fun env e => by obtain ⟨⟩ := env; cases (show _ = fnS 14 from e.trans hsc); rfl) (fun x hx => ?_) (TE_tuple (TEs_cons (fun env => rfl) (TE_list (TEs_nil ⟨by decide, fun cy hcy => TEs_cons (fun env => rfl) (TE_list (TEs_nil ⟨by decide, fun ed hed => TEs_cons (fun env => rfl) (TE_list (TEs_nil ⟨by decide, fun la hla => TEs_nil ⟨[.ref cy, .ref ed, .ref la], rfl, by show 3 ≤ sizeLine; decide, _, rfl, rfl, ?_⟩⟩))⟩))⟩)))))
  · rcases (by simpa using hx) with rfl | rfl | rfl
    · exact st_of hsc hro rfl
    · exact st_of hsc hro rfl
    · exact st_of hsc hro rfl
  have j1 : H.items pa = some (ps.map .pair) := by unfold AHeap.items; rw [i1]; rfl
  have j2 : H.items ta = some (its.map .int) := by unfold AHeap.items; rw [i2]; rfl
  have j3 : H.items ra = some (rs.map .int) := by unfold AHeap.items; rw [i3]; rfl
  have up : ∀ {a : Addr} {xs : List AV}, (((H.upd h1 (.list (ps.map .pair))).upd h2 (.list (its.map .int)))).items a = some xs → ((((((H.upd h1 (.list (ps.map .pair))).upd h2 (.list (its.map .int))).upd cy (.list [])).upd ed (.list [])).upd la (.list [])).fz [h1, h2]).items a = some xs :=
    fun h => items_fz (items_upd (items_upd (items_upd h hcy) hed) hla)
  have m1 := up (items_upd (items_upd j1 hh1) hh2)
  have m2 := up (items_upd (items_upd j2 hh1) hh2)
  have m3 := up (items_upd (items_upd j3 hh1) hh2)
  have m4 := up (items_upd (items_self (X := H) (a := h1) (xs := ps.map .pair)) hh2)
  have m5 := up (items_self (X := H.upd h1 (.list (ps.map .pair))) (a := h2) (xs := its.map .int))
  have m6 := items_fz (L := [h1, h2]) (items_upd (o := .list []) (items_upd (o := .list []) (items_self (X := (H.upd h1 (.list (ps.map .pair))).upd h2 (.list (its.map .int))) (a := cy) (xs := [])) hed) hla)
  have m7 := items_fz (L := [h1, h2]) (items_upd (o := .list []) (items_self (X := ((H.upd h1 (.list (ps.map .pair))).upd h2 (.list (its.map .int))).upd cy (.list [])) (a := ed) (xs := [])) hla)
  have m8 := items_fz (L := [h1, h2]) (items_self (X := ((((H.upd h1 (.list (ps.map .pair))).upd h2 (.list (its.map .int))).upd cy (.list [])).upd ed (.list []))) (a := la) (xs := []))
  have hold : ∀ b ∈ [h1, h2], ∃ o, (((((H.upd h1 (.list (ps.map .pair))).upd h2 (.list (its.map .int))).upd cy (.list [])).upd ed (.list [])).upd la (.list [])) b = some o := fun b hb => by
    have q : ∀ {a : Addr} {xs : List AV}, (((H.upd h1 (.list (ps.map .pair))).upd h2 (.list (its.map .int)))).items a = some xs → ∃ o, (((((H.upd h1 (.list (ps.map .pair))).upd h2 (.list (its.map .int))).upd cy (.list [])).upd ed (.list [])).upd la (.list [])) a = some o := fun {a xs} h => by
      have := items_upd (o := .list []) (items_upd (o := .list []) (items_upd (o := .list []) h hcy) hed) hla
      unfold AHeap.items at this
      cases e : (((((H.upd h1 (.list (ps.map .pair))).upd h2 (.list (its.map .int))).upd cy (.list [])).upd ed (.list [])).upd la (.list [])) a with
      | none => rw [e] at this; cases this
      | some o => exact ⟨o, rfl⟩
    rcases (by simpa using hb) with rfl | rfl
    · exact q (items_upd (items_self (X := H) (a := b) (xs := ps.map .pair)) hh2)
    · exact q (items_self (X := H.upd h1 (.list (ps.map .pair))) (a := b) (xs := its.map .int))
  refine TSs_freeze (L := [h1, h2]) hold fun F => ?_
  have n1 := items_fz_in (L := [h1, h2]) (items_upd (o := .list []) (items_upd (o := .list []) (items_upd (o := .list []) (items_upd (items_self (X := H) (a := h1) (xs := ps.map .pair)) hh2) hcy) hed) hla) (by simp)
  have n2 := items_fz_in (L := [h1, h2]) (items_upd (o := .list []) (items_upd (o := .list []) (items_upd (o := .list []) (items_self (X := H.upd h1 (.list (ps.map .pair))) (a := h2) (xs := its.map .int)) hcy) hed) hla) (by simp)
  generalize ((((((H.upd h1 (.list (ps.map .pair))).upd h2 (.list (its.map .int))).upd cy (.list [])).upd ed (.list [])).upd la (.list [])).fz [h1, h2]) = X at *
  have LF := L.holds F
  have kF := k.holds F
  refine TSs_cons fun A env s ok R => TS_try (C := C.holds F) (ps := ps) (its := its) (LL := LL) (bad := bad) (K := K) (fv := fv) (n1 := "handed") (n2 := "stood") kF LF.stk hro LF.gp LF.fs LF.exc LF.excG LF.subs hfv Sf hr (gl_of (C := C.holds F) hsc rfl) (gl_of (C := C.holds F) hsc rfl) (gl_of (C := C.holds F) hsc rfl) (st_of (C := C.holds F) hsc hro rfl) (by show C.sc.names.lookup _ = _; rw [hsc]; rfl)
    (ld_of (C := C.holds F) hsc rfl) (by rfl) (ld_of (C := C.holds F) hsc rfl) (by rfl) n1 n2 (by omega) so.inn so.cnt so.hit so.hnd so.lays (by have := so.few; omega) (fun env => rfl) (fun hb S hS => ?_) (fun hb A e c d l m h0 s hA ct => ?_) ok R
  · obtain ⟨c1, c2, c3⟩ := good0 hb
    exact right_rest LF.fs kF (by show 0 < C.room; omega) hsc hro so (pa := pa) (ta := ta) (ra := ra) (h1 := h1) (h2 := h2) (cy := cy) (ed := ed) (la := S) (rs := rs) (cs := []) (es := []) (ls := LL.flatten) (by exact r1) (by exact r2) (by exact r3) rfl rfl rfl rfl rfl
      (items_upd m1 hS) (items_upd m2 hS) (items_upd m3 hS) (items_upd m4 hS) (items_upd m5 hS) (items_upd m6 hS) (items_upd m7 hS) items_self so.few (by omega) c1.symm (fun q => absurd c1 q) fun _ => ⟨c2, c3⟩
  · obtain ⟨c1, c2, c3⟩ := good1 hb
    refine wpAny_mono (suite_right (C := C.holds F) ct kF LF.exc LF.fs hA (gl_of (C := C.holds F) hsc rfl) (ld_of (C := C.holds F) hsc rfl) (by rfl) (fun env => rfl) (fun env e => by obtain ⟨⟩ := env; cases (show _ = fnS 14 from e.trans hsc); rfl) (fun x hx => ?_))
      (fun f s' ⟨hf, b1, b2, ms, mm, hH1, hH2, hb12, R', pm1, so1, pm2, so2, nd, l5⟩ => ⟨hf, _, _, R', ?_⟩) fun _ _ x => x.elim
    · rcases (by simpa using hx) with rfl | rfl
      · exact st_of (C := C.holds F) hsc hro rfl
      · exact st_of (C := C.holds F) hsc hro rfl
    · have hH2' : (X.upd b1 (.list (ms.map .int))) b2 = none := by rw [AHeap.upd_ne _ _ (Ne.symm hb12)]; exact hH2
      have lsrt : l.Pairwise (· < ·) := by obtain ⟨_, _, _, _, q, _⟩ := ct.i; exact q
      have e1 : ms = rs := sort_uniq (l := l) ⟨pm1, so1⟩ ⟨by
        rw [List.perm_ext_iff_of_nodup (lt_nodup c2) (lt_nodup lsrt)]
        intro x
        rw [c3, ct.il], c2.imp fun {a b} q => Int.le_of_lt q⟩
      exact right_rest LF.fs kF (by show 0 < C.room; omega) hsc hro so (pa := pa) (ta := ta) (ra := ra) (h1 := h1) (h2 := h2) (cy := b1) (ed := b2) (la := la) (rs := rs) (cs := ms) (es := mm) (ls := []) (by exact r1) (by exact r2) (by exact r3) rfl rfl rfl rfl rfl
        (items_upd (items_upd m1 hH1) hH2') (items_upd (items_upd m2 hH1) hH2') (items_upd (items_upd m3 hH1) hH2') (items_upd (items_upd m4 hH1) hH2') (items_upd (items_upd m5 hH1) hH2') (items_upd items_self hH2') items_self (items_upd (items_upd m8 hH1) hH2') (by decide) (by omega) e1
        (fun _ => ⟨(pm2.nodup_iff).mpr nd, fun p => (pm2.mem_iff).trans (ct.jm p), so2⟩) fun q => absurd q c1
end
end Mine
end
section
open PySem PySem.W PyProof.Rows PySem.SeqAt
set_option maxRecDepth 100000
set_option autoImplicit false
set_option linter.unusedVariables false
namespace Mine
section
variable {C : Cx} {A : Around} {env : Env} {ρ : Loc} {H : AHeap} {s : Shared} {K : ExcK}
theorem TC_fn2 {f : Value} {i : Nat} {ps : List Str} {avs : List AV} {Q : AV → AHeap → Prop} (F : FnAt C.gb f i ps) (k : C.Ok) (hr : 0 < C.room) (hk : (fnS i).kind = .function) (hco : (fnS i).isCoroutine = false) (hgen : (fnS i).isGenerator = false) (hsc : scGood (fnS i) ps = true) (hps : avs.length = ps.length)
    (h : ∀ C', C'.Ok → C'.sc = fnS i → C'.ro = false → C'.G = C.G → C'.gb = C.gb → C'.room = C.room - 1 → C'.stk = C.stk → C'.gp = C.gp → TSs C' (fnB i) (fun x => (ps.zip avs).lookup x) H.fzAll fun f ρ' H' => ∃ v L, (f = .ret v ∨ (f = .next ∧ v = .none)) ∧ (∀ b ∈ L, ∃ o, H' b = some o ∧ o.fz = false) ∧ ((∀ b ∈ L, H b = none) → Q v (H.adopt H' L))) :
    TC C f avs H Q := by
  obtain ⟨fa, o, fd, rfl, g, d, hc, hcd, hbody, hclo, hg, hb, hs, hbind⟩ := F
  refine TC_fun k hr g d (by rw [hc]; exact fun q => absurd (Value.type.inj q) (by decide)) hcd hbody hclo hg hb (hs ▸ hk) (hs ▸ hco) (hs ▸ hgen) hps hbind (hs ▸ hsc) fun hB k' => ?_
  exact h _ k' hs rfl rfl rfl rfl rfl rfl
theorem LawEnv.of {C' : Cx} (L : LawEnv C K) (hG : C'.G = C.G) (hgb : C'.gb = C.gb) (hst : C'.stk = C.stk) (hgp : C'.gp = C.gp) : LawEnv C' K := by
  refine ⟨?_, ?_, ?_, ?_, ?_, ?_, ?_⟩
  · rw [hG, hgb]; exact L.fs
  · rw [hgb]; exact L.exc
  · rw [hG]; exact L.excG
  · rw [hG, hgb]; exact L.subs
  · rw [hG, hgb]; exact L.sortG
  · rw [hgp]; exact L.gp
  · rw [hst]; exact L.stk
/-- what makes _law_right(ps, its, rs) true -/
def RightFor (ps : List (Int × Int)) (its rs : List Int) : Prop := ∃ LL bad, SortOk ps its LL bad ∧ (bad = false → rs = [] ∧ laidOk ps its [] LL.flatten = true ∧ LL.flatten.Perm its) ∧ (bad = true → rs ≠ [] ∧ rs.Pairwise (· < ·) ∧ ∀ x, x ∈ rs ↔ Ring ps x)
theorem TC_right {f : Value} {pa ta ra : Addr} {ps : List (Int × Int)} {its rs : List Int} {Q : AV → AHeap → Prop} (F : FnAt C.gb f 14 ["pairs", "tables", "rings"]) (L : LawEnv C K) (k : C.Ok) (hr : 13 < C.room) (G : RightFor ps its rs)
    (i1 : H.items pa = some (ps.map .pair)) (i2 : H.items ta = some (its.map .int)) (i3 : H.items ra = some (rs.map .int)) (hq : Q (.bool true) H) : TC C f [.ref pa, .ref ta, .ref ra] H Q := by
  obtain ⟨LL, bad, so, g0, g1⟩ := G
  refine TC_fn2 F k (by omega) rfl rfl rfl rfl rfl fun C' k' hsc hro hG hgb hrm hst hgp => ?_
  refine (right_walk (L.of hG hgb hst hgp) k' (by omega) hsc hro so (pa := pa) (ta := ta) (ra := ra) (rs := rs) rfl rfl rfl (fz_list i1) (fz_list i2) (fz_list i3) g0 g1).mono fun f ρ' H' e => ?_
  rw [e]
  exact ⟨_, [], .inl rfl, fun x hx => (by cases hx), fun hn => by rw [adopt_nil]; exact hq⟩
theorem one_walk (L : LawEnv C K) (k : C.Ok) (hr : 13 < C.room) (hsc : C.sc = fnS 15) (hro : C.ro = false) {n : Nat} {ta fx lo : Addr} {its : List Int} {fixed loose : List (Int × Int)} {I : Nat → List (Int × Int) → Prop}
    (r1 : ρ "n" = some (.int n)) (r2 : ρ "tables" = some (.ref ta)) (r3 : ρ "fixed" = some (.ref fx)) (r4 : ρ "loose" = some (.ref lo)) (i2 : H ta = some (.ro (its.map .int))) (i3 : H fx = some (.ro (fixed.map .pair))) (i4 : H lo = some (.ro (loose.map .pair)))
    (hn5 : n ≤ 5) (hlo : ∀ p ∈ loose, (0 ≤ p.1 ∧ p.1 < n) ∧ 0 ≤ p.2 ∧ p.2 < n) (hI0 : I 0 fixed) (hIl : ∀ i ws, I i ws → ws.length < 50 ∧ ∀ p ∈ ws, (0 ≤ p.1 ∧ p.1 < n) ∧ 0 ≤ p.2 ∧ p.2 < n)
    (hI : ∀ i ws q, I i ws → loose[i]? = some q → RightFor (ws ++ [q]) its (betweenOf n ws q) ∧ (betweenOf n ws q = [] → I (i + 1) (ws ++ [q])) ∧ (betweenOf n ws q ≠ [] → I (i + 1) ws)) :
    TSs C (fnB 15) ρ H fun f ρ' H' => f = .ret (.bool true) := by
  have hsl : sizeLine = 2 ^ 24 := rfl
  obtain ⟨fb, hfb, Fb⟩ := L.fs.between
  obtain ⟨fr, hfr, Fr⟩ := L.fs.right
  unfold fnB
  refine TSs_cons (TS_assign (fun env => rfl) (st_of hsc hro rfl) (TE_call k (gl_of hsc rfl) L.fs.list trivial (fun env => ⟨_, _, rfl, rfl⟩) (TEs_cons (fun env => rfl) (TE_name (ld_of hsc rfl) (v := .ref fx) (by exact r3) (TEs_nil (TC_list (xs := fixed.map .pair) (by unfold AHeap.items; rw [i3]; rfl) (by have := (hIl 0 fixed hI0).1; simp; omega) fun w hw => ?_))))))
  have o1 : ∀ {b : Addr} {o o' : AObj}, H b = some o → (H.upd w o') b = some o := fun {b o o'} h => by rw [AHeap.upd_ne _ _ fun q => by rw [q, hw] at h; cases h]; exact h
  refine TSs_cons (TS_for (fun env x => rfl) (TE_name (ld_of hsc rfl) (v := .ref lo) (by exact r4) ⟨_, _, (iter_list (xs := loose.map .pair) (by unfold AHeap.items; rw [o1 i4]; rfl)).some, fun xs hx => ?_⟩))
  subst hx
  refine ⟨fun i ρ' H' => ∃ ws, ρ' "n" = some (.int n) ∧ ρ' "tables" = some (.ref ta) ∧ ρ' "within" = some (.ref w) ∧ H' ta = some (.ro (its.map .int)) ∧ H' lo = some (.ro (loose.map .pair)) ∧ H' w = some (.list (ws.map .pair)) ∧ I i ws,
    ⟨fixed, by exact r1, by exact r2, rfl, o1 i2, o1 i4, AHeap.upd_self _ _ _, hI0⟩, fun i ρ' H' ⟨ws, h⟩ => by unfold AHeap.items; rw [h.2.2.2.2.1]; rfl, fun i ρ₂ H₂ v hv hInv I' ob => ?_, fun ρ₂ H₂ hInv => ?_⟩
  · obtain ⟨q, hq, rfl⟩ := item_pair hv
    obtain ⟨ws, g1, g2, g3, g4, g5, g6, g7⟩ := hInv
    obtain ⟨wl, win⟩ := hIl i ws g7
    obtain ⟨G, c1, c2⟩ := hI i ws q g7 hq
    have kI := k.hold I' ob
    refine TA_name (st_of hsc hro rfl) (TSs_cons (TS_assign (C := C.hold I' ob) (fun env => rfl) (st_of (C := C.hold I' ob) hsc hro rfl) (TE_call (C := C.hold I' ob) kI (gl_of (C := C.hold I' ob) hsc rfl) hfb Fb.callee (fun env => ⟨_, _, rfl, rfl⟩) (TEs_cons (fun env => rfl) (TE_name (ld_of (C := C.hold I' ob) hsc rfl) (v := .int n) (by exact g1) (TEs_cons (fun env => rfl) (TE_name (ld_of (C := C.hold I' ob) hsc rfl) (v := .ref w) (by exact g3) (TEs_cons (fun env => rfl) (TE_name (ld_of (C := C.hold I' ob) hsc rfl) (v := .pair q) rfl (TEs_nil ?_))))))))))
    refine TC_between (C := C.hold I' ob) (ps := ws) (q := q) Fb L.fs kI (by show 1 < C.room; omega) (by unfold AHeap.items; rw [g6]; rfl) hn5 (by omega) win (hlo q (List.mem_of_getElem? hq)) fun r hrn => ?_
    have w0 : H₂.items w = some (ws.map .pair) := by unfold AHeap.items; rw [g6]; rfl
    have t0 : H₂.items ta = some (its.map .int) := by unfold AHeap.items; rw [g4]; rfl
    have hwr : w ≠ r := fun e => by rw [← e, g6] at hrn; cases hrn
    have htr : ta ≠ r := fun e => by rw [← e, g4] at hrn; cases hrn
    have hlr : lo ≠ r := fun e => by rw [← e, g5] at hrn; cases hrn
    have LI : LawEnv (C.hold I' ob) K := L.of rfl rfl rfl rfl
    refine TSs_cons (TS_if (TT_not (TT_val (fun env whole => rfl) (TE_call (C := C.hold I' ob) kI (gl_of (C := C.hold I' ob) hsc rfl) hfr Fr.callee (fun env => ⟨_, _, rfl, rfl⟩) (TEs_cons (fun env => rfl) (TE_bin (TE_name (ld_of (C := C.hold I' ob) hsc rfl) (v := .ref w) (by exact g3) (TE_list (TEs_cons (fun env => rfl) (TE_name (ld_of (C := C.hold I' ob) hsc rfl) (v := .pair q) rfl (TEs_nil ⟨by show 1 ≤ sizeLine; decide, fun x hx => ?_⟩)))))))))))
    have wx := items_upd (o := .list [.pair q]) (items_upd (o := .list ((betweenOf n ws q).map .int)) w0 hrn) hx
    refine T2_cat wx items_self (by simp; omega) fun y hy => ?_
    refine TEs_cons (fun env => rfl) (TE_name (ld_of (C := C.hold I' ob) hsc rfl) (v := .ref ta) (by exact g2) (TEs_cons (fun env => rfl) (TE_name (ld_of (C := C.hold I' ob) hsc rfl) (v := .ref r) rfl (TEs_nil ?_))))
    have e1 : ws.map AV.pair ++ [.pair q] = (ws ++ [q]).map AV.pair := by simp
    have hrx : r ≠ x := fun e => by rw [← e, AHeap.upd_self] at hx; cases hx
    have hry : r ≠ y := fun e => by rw [← e, AHeap.upd_ne _ _ hrx, AHeap.upd_self] at hy; cases hy
    refine TC_right (C := C.hold I' ob) (ps := ws ++ [q]) (its := its) (rs := betweenOf n ws q) Fr LI kI (by show 13 < C.room; omega) G (by rw [e1]; exact items_self) (items_upd (items_upd (items_upd t0 hrn) hx) hy) (items_upd (items_upd items_self hx) hy) (TB_bool ?_)
    rw [if_neg (by decide)]
    have old : ∀ {b : Addr} {o : AObj}, H₂ b = some o → ((((H₂.upd r (.list ((betweenOf n ws q).map .int))).upd x (.list [.pair q])).upd y (.list (ws.map .pair ++ [.pair q])))) b = some o := fun {b o} h => by
      have h1 : b ≠ r := fun e => by rw [← e, h] at hrn; cases hrn
      have h2 : b ≠ x := fun e => by rw [← e, AHeap.upd_ne _ _ h1, h] at hx; cases hx
      have h3 : b ≠ y := fun e => by rw [← e, AHeap.upd_ne _ _ h2, AHeap.upd_ne _ _ h1, h] at hy; cases hy
      rw [AHeap.upd_ne _ _ h3, AHeap.upd_ne _ _ h2, AHeap.upd_ne _ _ h1]; exact h
    have hrI : ((((H₂.upd r (.list ((betweenOf n ws q).map .int))).upd x (.list [.pair q])).upd y (.list (ws.map .pair ++ [.pair q])))).items r = some ((betweenOf n ws q).map .int) := items_upd (items_upd items_self hx) hy
    generalize (((H₂.upd r (.list ((betweenOf n ws q).map .int))).upd x (.list [.pair q])).upd y (.list (ws.map .pair ++ [.pair q]))) = X at *
    refine TSs_nil (TSs_cons (TS_if (TT_cmp rfl (TE_name (ld_of (C := C.hold I' ob) hsc rfl) (v := .ref r) rfl (TE_list (TEs_nil ⟨by decide, fun z hz => ?_⟩))))))
    refine T2_eql keyedInt (f := AV.int) (xs := betweenOf n ws q) (ys := []) (items_upd hrI hz) items_self ⟨_, rfl, ?_⟩
    have zn : ∀ {b : Addr} {o o' : AObj}, X b = some o → (X.upd z o') b = some o := fun {b o o'} h => by rw [AHeap.upd_ne _ _ fun e => by rw [e, hz] at h; cases h]; exact h
    have hwz : w ≠ z := fun e => by have := old g6; rw [e, hz] at this; cases this
    by_cases c : betweenOf n ws q = []
    · rw [dt _ c, if_pos rfl]
      refine TSs_cons (TS_expr (fun env => rfl) (TE_meth (fun env => rfl) (fun env => rfl) rfl (fun env => .inr ⟨_, _, rfl, rfl⟩) (TE_name (ld_of (C := C.hold I' ob) hsc rfl) (v := .ref w) (by exact g3) ⟨w, _, _, rfl, zn (old g6), meth_append, TEs_cons (fun env => rfl) (TE_name (ld_of (C := C.hold I' ob) hsc rfl) (v := .pair q) rfl (TEs_nil (TC_append (zn (old g6)) (by simp; omega) ?_)))⟩)))
      refine ⟨.inl rfl, TSs_nil (TSs_nil ⟨ws ++ [q], by exact g1, by exact g2, by exact g3, ?_, ?_, ?_, c1 c⟩)⟩
      · rw [AHeap.upd_ne _ _ fun e => by rw [e, g6] at g4; cases g4]; exact zn (old g4)
      · rw [AHeap.upd_ne _ _ fun e => by rw [e, g6] at g5; cases g5]; exact zn (old g5)
      · rw [AHeap.upd_self, e1]
    · rw [df _ c, if_neg (by decide)]
      exact TSs_nil (TSs_nil ⟨ws, by exact g1, by exact g2, by exact g3, zn (old g4), zn (old g5), zn (old g6), c2 c⟩)
  · exact TSs_nil (TSs_cons (TS_ret (TE_bool rfl)))
end
end Mine
end
section
open PySem PySem.W PyProof.Rows PySem.SeqAt
set_option maxRecDepth 100000
set_option autoImplicit false
set_option linter.unusedVariables false
namespace Mine
/-- what the law draws and reckons from its script -/
structure Drew where
  n : Nat
  its : List Int
  fixed : List (Int × Int)
  loose : List (Int × Int)
namespace Drew
def every (d : Drew) : List (Int × Int) := d.fixed ++ d.loose
def part (d : Drew) : List Int := d.its.drop 1
def rings (d : Drew) : List Int := ringsOf d.n d.every
def firm (d : Drew) : List Int := ringsOf d.n d.fixed
def apart (d : Drew) : List (Int × Int) := d.every.filter fun q => !(q.1 == d.its.headD 0 || q.2 == d.its.headD 0)
def among (d : Drew) : List Int := ringsOf d.n d.apart
def putOff (d : Drew) : List (Int × Int) := d.loose.filter fun q => decide (q.1 ∈ d.rings) && decide (q.2 ∈ d.rings)
def inside (d : Drew) : List (Int × Int) := d.every.filter fun q => !decide (q ∈ d.putOff)
/-- what the plain law says of it -/
structure Ok (d : Drew) : Prop where
  n3 : 3 ≤ d.n
  n5 : d.n ≤ 5
  itl : d.its.length = d.n
  el : d.every.length ≤ 7
  fi : ∀ p ∈ d.fixed, (0 ≤ p.1 ∧ p.1 < d.n) ∧ 0 ≤ p.2 ∧ p.2 < d.n
  lo : ∀ p ∈ d.loose, (0 ≤ p.1 ∧ p.1 < d.n) ∧ 0 ≤ p.2 ∧ p.2 < d.n
  sort : ∃ LL bad, SortOk d.every d.part LL bad ∧ (bad = false → d.among = [] ∧ laidOk d.every d.part [] LL.flatten = true ∧ LL.flatten.Perm d.part) ∧ (bad = true → d.among ≠ [] ∧ ∀ t ∈ d.among, Ring d.every t)
  r1 : RightFor (d.every ++ d.every.take 2) d.its d.rings
  r2 : RightFor d.inside d.its d.firm
  one : d.firm = [] → ∃ I : Nat → List (Int × Int) → Prop, I 0 d.fixed ∧ (∀ i ws, I i ws → ws.length < 50 ∧ ∀ p ∈ ws, (0 ≤ p.1 ∧ p.1 < d.n) ∧ 0 ≤ p.2 ∧ p.2 < d.n) ∧
    ∀ i ws q, I i ws → d.loose[i]? = some q → RightFor (ws ++ [q]) d.its (betweenOf d.n ws q) ∧ (betweenOf d.n ws q = [] → I (i + 1) (ws ++ [q])) ∧ (betweenOf d.n ws q ≠ [] → I (i + 1) ws)
end Drew
/-- where it lies -/
structure Lies where
  ta : Addr
  fa : Addr
  lo : Addr
  ev : Addr
  pt : Addr
  ri : Addr
  fi : Addr
  am : Addr
structure LS (d : Drew) (a : Lies) (ρ : Loc) (H : AHeap) : Prop where
  n : ρ "n" = some (.int d.n)
  ta : ρ "tables" = some (.ref a.ta)
  fa : ρ "fixed" = some (.ref a.fa)
  lo : ρ "loose" = some (.ref a.lo)
  ev : ρ "every" = some (.ref a.ev)
  pt : ρ "part" = some (.ref a.pt)
  ri : ρ "rings" = some (.ref a.ri)
  fi : ρ "firm" = some (.ref a.fi)
  am : ρ "among" = some (.ref a.am)
  hta : H.items a.ta = some (d.its.map .int)
  hfa : H.items a.fa = some (d.fixed.map .pair)
  hlo : H.items a.lo = some (d.loose.map .pair)
  hev : H.items a.ev = some (d.every.map .pair)
  hpt : H.items a.pt = some (d.part.map .int)
  hri : H.items a.ri = some (d.rings.map .int)
  hfi : H.items a.fi = some (d.firm.map .int)
  ham : H.items a.am = some (d.among.map .int)
theorem LS.upd {d : Drew} {a : Lies} {ρ : Loc} {H : AHeap} (x : LS d a ρ H) {z : Addr} {o : AObj} (h : H z = none) : LS d a ρ (H.upd z o) :=
  { x with hta := items_upd x.hta h, hfa := items_upd x.hfa h, hlo := items_upd x.hlo h, hev := items_upd x.hev h, hpt := items_upd x.hpt h, hri := items_upd x.hri h, hfi := items_upd x.hfi h, ham := items_upd x.ham h }
theorem LS.fz {d : Drew} {a : Lies} {ρ : Loc} {H : AHeap} (x : LS d a ρ H) {L : List Addr} : LS d a ρ (H.fz L) :=
  { x with hta := items_fz x.hta, hfa := items_fz x.hfa, hlo := items_fz x.hlo, hev := items_fz x.hev, hpt := items_fz x.hpt, hri := items_fz x.hri, hfi := items_fz x.hfi, ham := items_fz x.ham }
/-- names that do not matter to it -/
def lsFree (x : Str) : Bool := !(["n", "tables", "fixed", "loose", "every", "part", "rings", "firm", "among"] : List Str).contains x
theorem LS.loc {d : Drew} {a : Lies} {ρ ρ' : Loc} {H : AHeap} (x : LS d a ρ H) (h : ∀ y ∈ (["n", "tables", "fixed", "loose", "every", "part", "rings", "firm", "among"] : List Str), ρ' y = ρ y) : LS d a ρ' H :=
  { x with n := (h _ (by simp)).trans x.n, ta := (h _ (by simp)).trans x.ta, fa := (h _ (by simp)).trans x.fa, lo := (h _ (by simp)).trans x.lo, ev := (h _ (by simp)).trans x.ev, pt := (h _ (by simp)).trans x.pt, ri := (h _ (by simp)).trans x.ri, fi := (h _ (by simp)).trans x.fi, am := (h _ (by simp)).trans x.am }
theorem LS.upds {d : Drew} {a : Lies} {ρ : Loc} {H : AHeap} (x : LS d a ρ H) {y : Str} {v : AV} (h : lsFree y = true) : LS d a (ρ.upd y v) H := x.loc fun z hz => Loc.upd_ne _ _ fun e => by
  subst e
  unfold lsFree at h
  simp only [Bool.not_eq_true'] at h
  have : (["n", "tables", "fixed", "loose", "every", "part", "rings", "firm", "among"] : List Str).contains z = true := by simpa using hz
  rw [this] at h; cases h
theorem LS.drop {d : Drew} {a : Lies} {ρ : Loc} {H : AHeap} (x : LS d a ρ H) {y : Str} (h : lsFree y = true) : LS d a (ρ.drop y) H := x.loc fun z hz => if_neg fun e => by
  subst e
  unfold lsFree at h
  simp only [Bool.not_eq_true'] at h
  have : (["n", "tables", "fixed", "loose", "every", "part", "rings", "firm", "among"] : List Str).contains z = true := by simpa using hz
  rw [this] at h; cases h
section
variable {C : Cx} {A : Around} {env : Env} {ρ : Loc} {H : AHeap} {s : Shared} {K : ExcK}
theorem TE_or2 {e f : Expr} {pos : Pos} {Q : AV → AHeap → Prop} (h : TE C e ρ H fun v H₁ => ∃ b, v = .bool b ∧ if b = true then Q (.bool true) H₁ else TE C f ρ H₁ Q) : TE C (.BoolOp .Or [e, f] pos) ρ H Q := fun A env s ok R => by
  rw [arm_eval_BoolOp]
  show wpAny _ A (do
    let v ← eval e env
    standAt pos
    let t ← holding [v] (truthy v)
    match BoolOp.Or, t with
    | .And, false | .Or, true => pure v
    | _, _ => boolOp pos .Or [eval f env]) _ _ s
  refine wpAny_bind ((h A env s ok R).mono fun v s₁ ⟨t₁, av, H₁, h1, R₁, b, e1, hb⟩ => ?_)
  subst e1
  obtain rfl := h1
  refine wpAny_bind (wpAny_standAt (wpAny_bind (wpAny_holding (wpAny_truthy_bool ?_))))
  cases b with
  | true => exact wpAny_pure ⟨t₁, .bool true, H₁, rfl, R₁, hb⟩
  | false => exact (hb A env s₁ ok R₁).mono fun v s₂ z => z.t t₁
/-- what the law does last -/
theorem law_last (L : LawEnv C K) (k : C.Ok) (hr : 16 < C.room) (hsc : C.sc = fnS 16) (hro : C.ro = false) {d : Drew} (D : d.Ok) {a : Lies} (x : LS d a ρ H) {ins : Addr} (ri : ρ "inside" = some (.ref ins)) (hi : H.items ins = some (d.inside.map .pair)) : TSs C ((fnB 16).drop 10) ρ H fun f ρ' H' => f = .ret (.bool true) := by
  have hsl : sizeLine = 2 ^ 24 := rfl
  have el := D.el
  obtain ⟨fr, hfr, Fr⟩ := L.fs.right
  obtain ⟨fo, hfo, Fo⟩ := L.fs.one
  unfold fnB
  refine TSs_cons (TS_if (TT_bool (TAll_or (TT_not (TT_val (fun env whole => rfl) (TE_call k (gl_of hsc rfl) hfr Fr.callee (fun env => ⟨_, _, rfl, rfl⟩) (TEs_cons (fun env => rfl) (TE_bin (TE_name (ld_of hsc rfl) (v := .ref a.ev) (by exact x.ev) (TE_cut (fun _ _ => rfl) (TE_name (ld_of hsc rfl) (v := .ref a.ev) (by exact x.ev) (TE_int ⟨2, rfl, a.ev, _, rfl, x.hev, by simp; omega, fun r hrn => ?_⟩))))))))))))
  have x1 := x.upd (o := .list (cut (d.every.map AV.pair) none (some 2))) hrn
  refine T2_cat x1.hev items_self (by simp [cut]; omega) fun r2 hrn2 => ?_
  have e1 : d.every.map AV.pair ++ cut (d.every.map AV.pair) none (some 2) = (d.every ++ d.every.take 2).map AV.pair := by simp [cut]
  have x2 := x1.upd (o := .list (d.every.map AV.pair ++ cut (d.every.map AV.pair) none (some 2))) hrn2
  refine TEs_cons (fun env => rfl) (TE_name (ld_of hsc rfl) (v := .ref a.ta) (by exact x.ta) (TEs_cons (fun env => rfl) (TE_name (ld_of hsc rfl) (v := .ref a.ri) (by exact x.ri) (TEs_nil ?_))))
  refine TC_right (ps := d.every ++ d.every.take 2) (its := d.its) (rs := d.rings) Fr L k (by omega) D.r1 (by rw [e1]; exact items_self) x2.hta x2.hri (TB_bool ?_)
  rw [if_neg (by decide)]
  refine TAll_or (TT_not (TT_val (fun env whole => rfl) (TE_call k (gl_of hsc rfl) hfr Fr.callee (fun env => ⟨_, _, rfl, rfl⟩) (TEs_cons (fun env => rfl) (TE_name (ld_of hsc rfl) (v := .ref ins) (by exact ri) (TEs_cons (fun env => rfl) (TE_name (ld_of hsc rfl) (v := .ref a.ta) (by exact x.ta) (TEs_cons (fun env => rfl) (TE_name (ld_of hsc rfl) (v := .ref a.fi) (by exact x.fi) (TEs_nil ?_))))))))))
  refine TC_right (ps := d.inside) (its := d.its) (rs := d.firm) Fr L k (by omega) D.r2 (items_upd (items_upd hi hrn) hrn2) x2.hta x2.hfi (TB_bool ?_)
  rw [if_neg (by decide)]
  refine TAll_nil ?_
  rw [if_neg (by decide)]
  refine TSs_nil (TSs_cons (TS_ret (TE_or2 (TE_cmp rfl (TE_name (ld_of hsc rfl) (v := .ref a.fi) (by exact x.fi) (TE_list (TEs_nil ⟨by decide, fun z hz => ?_⟩)))))))
  have x3 := x2.upd (o := .list []) hz
  refine T2_nel keyedInt (f := AV.int) (xs := d.firm) (ys := []) x3.hfi items_self ?_
  by_cases c : d.firm = []
  · rw [dt _ c]
    refine ⟨false, rfl, ?_⟩
    rw [if_neg (by decide)]
    obtain ⟨I, I0, Il, Is⟩ := D.one c
    refine TE_call k (gl_of hsc rfl) hfo Fo.callee (fun env => ⟨_, _, rfl, rfl⟩) (TEs_cons (fun env => rfl) (TE_name (ld_of hsc rfl) (v := .int d.n) (by exact x.n) (TEs_cons (fun env => rfl) (TE_name (ld_of hsc rfl) (v := .ref a.ta) (by exact x.ta) (TEs_cons (fun env => rfl) (TE_name (ld_of hsc rfl) (v := .ref a.fa) (by exact x.fa) (TEs_cons (fun env => rfl) (TE_name (ld_of hsc rfl) (v := .ref a.lo) (by exact x.lo) (TEs_nil ?_)))))))))
    refine TC_fn2 Fo k (by omega) rfl rfl rfl rfl rfl fun C' k' hsc' hro' hG hgb hrm hst hgp => ?_
    refine (one_walk (L.of hG hgb hst hgp) k' (by omega) hsc' hro' (n := d.n) (ta := a.ta) (fx := a.fa) (lo := a.lo) rfl rfl rfl rfl (fz_list x3.hta) (fz_list x3.hfa) (fz_list x3.hlo) D.n5 D.lo I0 Il Is).mono fun f ρ' H' e => ?_
    rw [e]
    exact ⟨_, [], .inl rfl, fun x hx => (by cases hx), fun hn => rfl⟩
  · rw [df _ c]
    refine ⟨true, rfl, ?_⟩
    rw [if_pos rfl]
end
end Mine
end
section
open PySem PySem.W PyProof.Rows PySem.SeqAt
set_option maxRecDepth 100000
set_option autoImplicit false
set_option linter.unusedVariables false
namespace Mine
theorem filter_onPairId (f : Int × Int → Bool) (l : List (Int × Int)) : (((l.map AV.pair).filter (onPair f)).map id) = (l.filter f).map .pair := by
  rw [List.map_id, List.filter_map]; rfl
section
variable {C : Cx} {A : Around} {env : Env} {ρ : Loc} {H : AHeap} {s : Shared} {K : ExcK}
theorem TS_assignE {x : Str} {p' pos : Pos} {value : Expr} {Q : AFlow → Loc → AHeap → Prop} (hs : ∀ env : Env, env.scope = C.sc → swapsWith value (some (.Name x p')) pos.line env = pure false) (hk : stOk C x = true)
    (h : TE C value ρ H fun v H₁ => Q .next (ρ.upd x v) H₁) : TS C (.Assign [.Name x p'] value pos) ρ H Q := fun A env s ok R => by
  rw [exec_Assign_Name env x p' value pos (hs env R.fr.sc)]
  refine wpAny_bind (wpAny_standAt (wpAny_bind ((h A env s ok R).mono fun v s₁ ⟨t, av, H₁, h1, h2, h3⟩ => wpAny_bind (wpAny_standAt (wpAny_bind ?_)))))
  exact h2.store hk h1 fun s' R' t' => wpAny_pure ⟨.next, _, _, rfl, R', h3⟩
/-- put_off, inside and what comes after -/
theorem law_inside (L : LawEnv C K) (k : C.Ok) (hr : 16 < C.room) (hsc : C.sc = fnS 16) (hro : C.ro = false) {d : Drew} (D : d.Ok) {a : Lies} (x : LS d a ρ H) : TSs C ((fnB 16).drop 8) ρ H fun f ρ' H' => f = .ret (.bool true) := by
  have hsl : sizeLine = 2 ^ 24 := rfl
  have el := D.el
  have ell : d.fixed.length + d.loose.length ≤ 7 := by have := D.el; unfold Drew.every at this; simpa using this
  rw [show (fnB 16).drop 8 = ((fnB 16).drop 8).take 2 ++ (fnB 16).drop 10 from rfl]
  unfold fnB
  refine TSs_cons (TS_assignE (fun env e => by obtain ⟨⟩ := env; cases (show _ = fnS 16 from e.trans hsc); rfl) (st_of hsc hro rfl) (TE_listcomp k (by rw [hsc]; rfl) rfl (fun env x => rfl) (TE_name (ld_of hsc rfl) (v := .ref a.lo) (by exact x.lo) ⟨_, _, (iter_list (xs := d.loose.map .pair) x.hlo).some, fun xs hx => ?_⟩)))
  subst hx
  refine ⟨onPair fun q => decide (q.1 ∈ d.rings) && decide (q.2 ∈ d.rings), id, by simp; omega, fun C' ρ' H' inn hcap hfz av ha => ?_, fun po hpo => ?_⟩
  · obtain ⟨q, hq, rfl⟩ := List.mem_map.mp ha
    have c_r : ρ' "rings" = some (.ref a.ri) := hcap _ _ rfl (by exact x.ri)
    have h_r : H' a.ri = some (.ro (d.rings.map .int)) := hfz _ _ (fz_list x.hri)
    have hsc' := inn.sc
    rw [hsc] at hsc'
    refine TA_name (by unfold stOk; rw [hsc']; rfl) ⟨fun y v h1 h2 => ?_, ?_⟩
    · by_cases e : y = "pair"
      · subst e; exact absurd h1 (by decide)
      · rw [Loc.upd_ne _ _ e]; exact hcap y v h1 h2
    · refine TT.mono (Q := fun b H3 => b = onPair (fun q => decide (q.1 ∈ d.rings) && decide (q.2 ∈ d.rings)) (.pair q) ∧ H3 = H') ?_ fun b H3 ⟨e1, e2⟩ => ⟨e1, e2, fun _ => TE_name (ld_of hsc' rfl) (v := .pair q) rfl ⟨rfl, rfl⟩⟩
      refine TT_bool (TAll_and (TT_cmp rfl (TE_idxT (fun _ _ => rfl) (TE_name (ld_of hsc' rfl) (v := .pair q) rfl (TE_int ⟨q, rfl, .inl ⟨rfl, TE_name (ld_of hsc' rfl) (v := .ref a.ri) (by exact c_r) (T2_in keyedInt (f := AV.int) (ks := d.rings) (by unfold AHeap.items; rw [h_r]; rfl) ⟨_, rfl, ?_⟩)⟩⟩)))))
      by_cases c3 : q.1 ∈ d.rings
      · rw [dt _ c3, if_pos rfl]
        refine TAll_and (TT_cmp rfl (TE_idxT (fun _ _ => rfl) (TE_name (ld_of hsc' rfl) (v := .pair q) rfl (TE_int ⟨q, rfl, .inr ⟨rfl, TE_name (ld_of hsc' rfl) (v := .ref a.ri) (by exact c_r) (T2_in keyedInt (f := AV.int) (ks := d.rings) (by unfold AHeap.items; rw [h_r]; rfl) ⟨_, rfl, ?_⟩)⟩⟩))))
        by_cases c4 : q.2 ∈ d.rings
        · rw [dt _ c4, if_pos rfl]
          exact TAll_nil ⟨by show true = (decide (q.1 ∈ d.rings) && decide (q.2 ∈ d.rings)); rw [dt _ c3, dt _ c4]; rfl, rfl⟩
        · rw [df _ c4, if_neg (by decide)]
          exact ⟨by show false = (decide (q.1 ∈ d.rings) && decide (q.2 ∈ d.rings)); rw [df _ c4]; simp, rfl⟩
      · rw [df _ c3, if_neg (by decide)]
        exact ⟨by show false = (decide (q.1 ∈ d.rings) && decide (q.2 ∈ d.rings)); rw [df _ c3]; rfl, rfl⟩
  rw [filter_onPairId]
  have x1 := (x.upd (o := .list ((d.loose.filter fun q => decide (q.1 ∈ d.rings) && decide (q.2 ∈ d.rings)).map .pair)) hpo).upds (y := "put_off") (v := .ref po) rfl
  have hpl : d.putOff.length ≤ 7 := by
    have := List.length_filter_le (fun q => decide (q.1 ∈ d.rings) && decide (q.2 ∈ d.rings)) d.loose
    unfold Drew.putOff; omega
  have ipo : (H.upd po (.list ((d.loose.filter fun q => decide (q.1 ∈ d.rings) && decide (q.2 ∈ d.rings)).map .pair))).items po = some (d.putOff.map .pair) := items_self
  refine TSs_cons (TS_assignC k (by rw [hsc]; rfl) rfl (fun env x => rfl) (st_of hsc hro rfl) (sw_true hsc rfl rfl rfl rfl) (TE_name (ld_of hsc rfl) (v := .ref a.ev) (by exact x.ev) ⟨_, _, (iter_list (xs := d.every.map .pair) x1.hev).some, fun xs hx => ?_⟩))
  subst hx
  refine ⟨onPair fun q => !decide (q ∈ d.putOff), id, by simp; omega, fun C' ρ' H' inn hcap hfz av ha => ?_, fun ins hins => ?_⟩
  · obtain ⟨q, hq, rfl⟩ := List.mem_map.mp ha
    have c_r : ρ' "put_off" = some (.ref po) := hcap _ _ rfl rfl
    have h_r : H' po = some (.ro (d.putOff.map .pair)) := hfz _ _ (fz_list ipo)
    have hsc' := inn.sc
    rw [hsc] at hsc'
    refine TA_name (by unfold stOk; rw [hsc']; rfl) ⟨fun y v h1 h2 => ?_, ?_⟩
    · by_cases e : y = "pair"
      · subst e; exact absurd h1 (by decide)
      · rw [Loc.upd_ne _ _ e]; exact hcap y v h1 h2
    · refine TT_cmp rfl (TE_name (ld_of hsc' rfl) (v := .pair q) rfl (TE_name (ld_of hsc' rfl) (v := .ref po) (by exact c_r) (T2_notin keyedPair (f := AV.pair) (ks := d.putOff) (by unfold AHeap.items; rw [h_r]; rfl) ⟨_, rfl, ?_, rfl, fun _ => TE_name (ld_of hsc' rfl) (v := .pair q) rfl ⟨rfl, rfl⟩⟩)))
      by_cases c : q ∈ d.putOff
      · rw [dt _ c]; show _ = !decide (q ∈ d.putOff); rw [dt _ c]
      · rw [df _ c]; show _ = !decide (q ∈ d.putOff); rw [df _ c]
  rw [filter_onPairId]
  exact law_last L k hr hsc hro D ((x1.upd hins).upds (y := "inside") rfl) rfl items_self
end
end Mine
end
section
open PySem PySem.W PyProof.Rows PySem.SeqAt
set_option maxRecDepth 100000
set_option autoImplicit false
set_option linter.unusedVariables false
namespace Mine
section
variable {C : Cx} {A : Around} {env : Env} {ρ : Loc} {H : AHeap} {s : Shared} {K : ExcK}
/-- behind the try -/
theorem law_mid (L : LawEnv C K) (k : C.Ok) (hr : 16 < C.room) (hsc : C.sc = fnS 16) (hro : C.ro = false) {d : Drew} (D : d.Ok) {a : Lies} (x : LS d a ρ H) {cy la : Addr} {cs ls : List Int} (rc : ρ "cycles" = some (.ref cy)) (rl : ρ "laid" = some (.ref la)) (ic : H.items cy = some (cs.map .int)) (il : H.items la = some (ls.map .int))
    (hcs : cs.length < 64) (hls : ls.length < 64) (c1 : ∀ t ∈ d.among, t ∈ cs) (c2 : d.among = [] → cs = [] ∧ laidOk d.every d.part [] ls = true ∧ ls.Perm d.part) : TSs C ((fnB 16).drop 6) ρ H fun f ρ' H' => f = .ret (.bool true) := by
  have hsl : sizeLine = 2 ^ 24 := rfl
  have el := D.el
  have n5 := D.n5
  have itl := D.itl
  have ell : d.fixed.length + d.loose.length ≤ 7 := by have := D.el; unfold Drew.every at this; simpa using this
  have aml : d.among.length ≤ 5 := by
    unfold Drew.among ringsOf
    have := List.length_filter_le (fun t : Int => bitAt (aheadOf d.n d.apart) t.toNat t.toNat) (upto d.n)
    rw [upto_length] at this; omega
  rw [show (fnB 16).drop 6 = ((fnB 16).drop 6).take 2 ++ (fnB 16).drop 8 from rfl]
  unfold fnB
  refine TSs_cons (TS_if (TT_bool (TAll_or (TT_cmp rfl (TE_name (ld_of hsc rfl) (v := .ref a.ev) (by exact x.ev) (TE_bin (TE_name (ld_of hsc rfl) (v := .ref a.fa) (by exact x.fa) (TE_name (ld_of hsc rfl) (v := .ref a.lo) (by exact x.lo) (T2_cat x.hfa x.hlo (by simp; omega) fun r1 h1 => ?_)))))))))
  have e1 : d.fixed.map AV.pair ++ d.loose.map AV.pair = d.every.map AV.pair := by unfold Drew.every; simp
  have x1 := x.upd (o := .list (d.fixed.map AV.pair ++ d.loose.map AV.pair)) h1
  refine T2_nel keyedPair (f := AV.pair) (xs := d.every) (ys := d.every) x1.hev (by rw [e1]; exact items_self) ⟨_, rfl, ?_⟩
  rw [dt _ rfl, if_neg (by decide)]
  refine TAll_or (TT_cmp rfl (TE_name (ld_of hsc rfl) (v := .ref a.pt) (by exact x.pt) (TE_cut (fun _ _ => rfl) (TE_name (ld_of hsc rfl) (v := .ref a.ta) (by exact x.ta) (TE_int ⟨1, rfl, a.ta, _, rfl, x1.hta, by simp; omega, fun r2 h2 => ?_⟩)))))
  have x2 := x1.upd (o := .list (cut (d.its.map AV.int) (some 1) none)) h2
  have e2 : cut (d.its.map AV.int) (some 1) none = d.part.map AV.int := by unfold Drew.part; simp [cut]
  refine T2_nel keyedInt (f := AV.int) (xs := d.part) (ys := d.part) x2.hpt (by rw [e2]; exact items_self) ⟨_, rfl, ?_⟩
  rw [dt _ rfl, if_neg (by decide)]
  refine TAll_or (TT_cmp rfl (TE_listcomp k (by rw [hsc]; rfl) rfl (fun env x => rfl) (TE_name (ld_of hsc rfl) (v := .ref a.am) (by exact x.am) ⟨_, _, (iter_list (xs := d.among.map .int) x2.ham).some, fun xs hx => ?_⟩)))
  subst hx
  have ic2 := items_upd (o := .list (cut (d.its.map AV.int) (some 1) none)) (items_upd (o := .list (d.fixed.map AV.pair ++ d.loose.map AV.pair)) ic h1) h2
  have il2 := items_upd (o := .list (cut (d.its.map AV.int) (some 1) none)) (items_upd (o := .list (d.fixed.map AV.pair ++ d.loose.map AV.pair)) il h1) h2
  refine ⟨onInt fun t => !decide (t ∈ cs), id, by simp; omega, fun C' ρ' H' inn hcap hfz av ha => ?_, fun r3 h3 => ?_⟩
  · obtain ⟨t, ht, rfl⟩ := List.mem_map.mp ha
    have c_r : ρ' "cycles" = some (.ref cy) := hcap _ _ rfl (by exact rc)
    have h_r : H' cy = some (.ro (cs.map .int)) := hfz _ _ (fz_list ic2)
    have hsc' := inn.sc
    rw [hsc] at hsc'
    refine TA_name (by unfold stOk; rw [hsc']; rfl) ⟨fun y v h1 h2 => ?_, ?_⟩
    · by_cases e : y = "t"
      · subst e; exact absurd h1 (by decide)
      · rw [Loc.upd_ne _ _ e]; exact hcap y v h1 h2
    · refine TT_cmp rfl (TE_name (ld_of hsc' rfl) (v := .int t) rfl (TE_name (ld_of hsc' rfl) (v := .ref cy) (by exact c_r) (T2_notin keyedInt (f := AV.int) (ks := cs) (by unfold AHeap.items; rw [h_r]; rfl) ⟨_, rfl, ?_, rfl, fun _ => TE_name (ld_of hsc' rfl) (v := .int t) rfl ⟨rfl, rfl⟩⟩)))
      by_cases c : t ∈ cs
      · rw [dt _ c]; show _ = !decide (t ∈ cs); rw [dt _ c]
      · rw [df _ c]; show _ = !decide (t ∈ cs); rw [df _ c]
  rw [filter_onInt]
  have e3 : (d.among.filter fun t => !decide (t ∈ cs)) = [] := by
    rw [List.filter_eq_nil_iff]
    intro t ht
    simp [c1 t ht]
  rw [e3]
  have x3 := x2.upd (o := .list (([] : List Int).map AV.int)) h3
  refine TE_list (TEs_nil ⟨by decide, fun r4 h4 => ?_⟩)
  have x4 := x3.upd (o := .list []) h4
  refine T2_nel keyedInt (f := AV.int) (xs := []) (ys := []) (items_upd items_self h4) items_self ⟨_, rfl, ?_⟩
  rw [dt _ rfl, if_neg (by decide)]
  refine TAll_nil ?_
  rw [if_neg (by decide)]
  have ic4 := items_upd (o := .list []) (items_upd (o := .list (([] : List Int).map AV.int)) ic2 h3) h4
  have il4 := items_upd (o := .list []) (items_upd (o := .list (([] : List Int).map AV.int)) il2 h3) h4
  generalize ((((H.upd r1 (.list (d.fixed.map AV.pair ++ d.loose.map AV.pair))).upd r2 (.list (cut (d.its.map AV.int) (some 1) none))).upd r3 (.list (([] : List Int).map AV.int))).upd r4 (.list [])) = X at *
  refine TSs_nil (TSs_cons (TS_if (TT_bool (TAll_and (TT_cmp rfl (TE_name (ld_of hsc rfl) (v := .ref a.am) (by exact x.am) (TE_list (TEs_nil ⟨by decide, fun r5 h5 => ?_⟩))))))))
  have x5 := x4.upd (o := .list []) h5
  refine T2_eql keyedInt (f := AV.int) (xs := d.among) (ys := []) x5.ham items_self ⟨_, rfl, ?_⟩
  by_cases c : d.among = []
  · rw [dt _ c, if_pos rfl]
    obtain ⟨k1, k2, k3⟩ := c2 c
    subst k1
    refine TAll_and (TT_bool (TAll_or (TT_cmp rfl (TE_name (ld_of hsc rfl) (v := .ref cy) (by exact rc) (TE_list (TEs_nil ⟨by decide, fun r6 h6 => ?_⟩))))))
    have x6 := x5.upd (o := .list []) h6
    refine T2_nel keyedInt (f := AV.int) (xs := []) (ys := []) (items_upd (items_upd ic4 h5) h6) items_self ⟨_, rfl, ?_⟩
    rw [dt _ rfl, if_neg (by decide)]
    obtain ⟨fm, hfm, Fm⟩ := L.fs.made
    refine TAll_or (TT_not (TT_val (fun env whole => rfl) (TE_call k (gl_of hsc rfl) hfm Fm.callee (fun env => ⟨_, _, rfl, rfl⟩) (TEs_cons (fun env => rfl) (TE_name (ld_of hsc rfl) (v := .ref la) (by exact rl) (TEs_cons (fun env => rfl) (TE_name (ld_of hsc rfl) (v := .ref a.ev) (by exact x.ev) (TEs_cons (fun env => rfl) (TE_name (ld_of hsc rfl) (v := .ref a.pt) (by exact x.pt) (TEs_nil ?_))))))))))
    refine TC_made (ps := d.every) (ts := d.part) (laid := ls) Fm L.fs k (by omega) (items_upd (items_upd il4 h5) h6) x6.hev x6.hpt hls (by omega) (by unfold Drew.part; simp; omega) (TB_bool ?_)
    rw [k2, dt _ k3, if_neg (by decide)]
    refine TAll_nil ?_
    rw [if_neg (by decide)]
    show if _ then _ else _
    rw [if_neg (by decide)]
    exact TSs_nil (law_inside L k hr hsc hro D x6)
  · rw [df _ c, if_neg (by decide)]
    show if _ then _ else _
    rw [if_neg (by decide)]
    exact TSs_nil (law_inside L k hr hsc hro D x5)
end
end Mine
end
section
open PySem PySem.W PyProof.Rows PySem.SeqAt
set_option maxRecDepth 100000
set_option autoImplicit false
set_option linter.unusedVariables false
namespace Mine
/-- what a script draws -/
def drew (scr : List Int) : Drew := ⟨dN scr, dTables scr, (dPairs scr).1, (dPairs scr).2⟩
section
variable {C : Cx} {A : Around} {env : Env} {ρ : Loc} {H : AHeap} {s : Shared} {K : ExcK}
/-- the try and what comes after -/
theorem law_try (L : LawEnv C K) (k : C.Ok) (hr : 16 < C.room) (hsc : C.sc = fnS 16) (hro : C.ro = false) {d : Drew} (D : d.Ok) {a : Lies} (x : LS d a ρ H) {cy la : Addr} (rc : ρ "cycles" = some (.ref cy)) (rl : ρ "laid" = some (.ref la)) (ic : H.items cy = some []) (il : H.items la = some []) (ei : H a.ev = some (.ro (d.every.map .pair))) (pi : H a.pt = some (.ro (d.part.map .int))) :
    TSs C ((fnB 16).drop 5) ρ H fun f ρ' H' => f = .ret (.bool true) := by
  have hsl : sizeLine = 2 ^ 24 := rfl
  obtain ⟨fv, hfv, Sf⟩ := L.sortG
  obtain ⟨LL, bad, so, g0, g1⟩ := D.sort
  rw [show (fnB 16).drop 5 = ((fnB 16).drop 5).take 1 ++ (fnB 16).drop 6 from rfl]
  unfold fnB
  refine TSs_cons fun A env s ok R => TS_try (ps := d.every) (its := d.part) (LL := LL) (bad := bad) (K := K) (fv := fv) (n1 := "every") (n2 := "part") k L.stk hro L.gp L.fs L.exc L.excG L.subs hfv Sf (by omega) (gl_of hsc rfl) (gl_of hsc rfl) (gl_of hsc rfl) (st_of hsc hro rfl) (by rw [hsc]; rfl)
    (ld_of hsc rfl) (by exact x.ev) (ld_of hsc rfl) (by exact x.pt) ei pi (by have := so.len; omega) so.inn so.cnt so.hit so.hnd so.lays (by have := so.few; omega) (fun env => rfl) (fun hb S hS => ?_) (fun hb A e c d' l m h0 s hA ct => ?_) ok R
  · obtain ⟨c1, c2, c3⟩ := g0 hb
    exact law_mid L k hr hsc hro D ((x.upd hS).upds (y := "laid") rfl) (cy := cy) (la := S) (cs := []) (ls := LL.flatten) (by exact rc) rfl (items_upd ic hS) items_self (by decide) so.few (by rw [c1]; intro t ht; cases ht) fun _ => ⟨rfl, c2, c3⟩
  · obtain ⟨c1, c2⟩ := g1 hb
    refine wpAny_execs_cons ?_
    rw [exec_Assign_Name env _ _ _ _ (by rfl)]
    refine wpAny_bind (wpAny_standAt (wpAny_bind (sorted_cycles ct k L.exc L.fs hA (gl_of hsc rfl) (ld_of hsc rfl) (by rfl) fun s₁ b vs n ms ct1 e1 nb gb vr pm so' => ?_)))
    obtain ⟨hH1, R4⟩ := ct1.R.addNew (b := b) (o := .list (ms.map .int)) (h₁ := s.heap) (fun a q => ct.R.bears q) nb rfl ⟨vs, n, gb, vr⟩
    refine wpAny_bind (wpAny_standAt (wpAny_bind (R4.store (st_of hsc hro rfl) (v := .ref b) rfl fun s₂ R5 _ => wpAny_pure (wpAny_execs_nil ⟨rfl, _, _, R5, ?_⟩))))
    have l5 : l.length ≤ 5 := (WSet.raw ct.i).choose_spec.choose_spec.choose_spec.2.2
    refine law_mid L k hr hsc hro D ((((x.upd hH1).upds (y := "told") (v := .ref e) rfl).upds (y := "cycles") (v := .ref b) rfl).drop (y := "told") rfl) (cy := b) (la := la) (cs := ms) (ls := []) (by rfl) (by exact rl) items_self (items_upd il hH1) (by rw [pm.length_eq]; omega) (by decide) (fun t ht => pm.mem_iff.mpr ((ct.il t).mpr (c2 t ht))) fun q => absurd q c1
end
end Mine
end
section
open PySem PySem.W PyProof.Rows PySem.SeqAt
set_option maxRecDepth 100000
set_option autoImplicit false
set_option linter.unusedVariables false
namespace Mine
section
variable {C : Cx} {A : Around} {env : Env} {ρ : Loc} {H : AHeap} {s : Shared} {K : ExcK}
theorem law_walk (L : LawEnv C K) (k : C.Ok) (hr : 16 < C.room) (hsc : C.sc = fnS 16) (hro : C.ro = false) {scr : List Int} (D : (drew scr).Ok) {sa : Addr} (rs : ρ "script" = some (.ref sa)) (is : H sa = some (.ro (scr.map .int))) (hlen : scr.length < 1000) :
    TSs C (fnB 16) ρ H fun f ρ' H' => f = .ret (.bool true) := by
  have hsl : sizeLine = 2 ^ 24 := rfl
  obtain ⟨fd, hfd, Fd⟩ := L.fs.drawn
  obtain ⟨fr, hfr, Fr⟩ := L.fs.rings
  generalize hd : drew scr = d at D
  have n3 := D.n3
  have n5 := D.n5
  have itl := D.itl
  have ell : d.fixed.length + d.loose.length ≤ 7 := by have := D.el; unfold Drew.every at this; simpa using this
  have ein : ∀ p ∈ d.every, (0 ≤ p.1 ∧ p.1 < d.n) ∧ 0 ≤ p.2 ∧ p.2 < d.n := fun p hp => by
    unfold Drew.every at hp
    rcases List.mem_append.mp hp with hp | hp
    · exact D.fi p hp
    · exact D.lo p hp
  rw [show fnB 16 = (fnB 16).take 5 ++ (fnB 16).drop 5 from rfl]
  refine TSs_cons (TS_assignT (fun env => rfl) (fun env e => rfl) (TE_call k (gl_of hsc rfl) hfd Fd.callee (fun env => ⟨_, _, rfl, rfl⟩) (TEs_cons (fun env => rfl) (TE_name (ld_of hsc rfl) (v := .ref sa) (by exact rs) (TEs_nil (TC_drawn Fd L.fs k (by omega) (by unfold AHeap.items; rw [is]; rfl) hlen fun H1 t fa lo n1 n2 n4 old it ifa ilo => ?_))))))
  refine TA_tuple (xs := ["n", "tables", "fixed", "loose"]) (fun env => .name (.inr ⟨_, rfl⟩) (.name (.inr ⟨_, rfl⟩) (.name (.inr ⟨_, rfl⟩) (.name (.inr ⟨_, rfl⟩) .nil)))) (fun env => rfl) (fun y hy => ?_) rfl rfl (fun env => rfl) ?_
  · rcases (by simpa using hy) with rfl | rfl | rfl | rfl
    · exact st_of hsc hro rfl
    · exact st_of hsc hro rfl
    · exact st_of hsc hro rfl
    · exact st_of hsc hro rfl
  have e_n : dN scr = d.n := by rw [← hd]; rfl
  have jt : H1.items t = some (d.its.map .int) := by unfold AHeap.items; rw [it, ← hd]; rfl
  have jf : H1.items fa = some (d.fixed.map .pair) := by unfold AHeap.items; rw [ifa, ← hd]; rfl
  have jl : H1.items lo = some (d.loose.map .pair) := by unfold AHeap.items; rw [ilo, ← hd]; rfl
  rw [e_n]
  refine TSs_cons (TS_assignS (xs := ["every", "part"]) (fun env => rfl) (fun env e => by obtain ⟨⟩ := env; cases (show _ = fnS 16 from e.trans hsc); rfl) (fun y hy => ?_) (TE_tuple (TEs_cons (fun env => rfl) (TE_bin (TE_name (ld_of hsc rfl) (v := .ref fa) rfl (TE_name (ld_of hsc rfl) (v := .ref lo) rfl (T2_cat jf jl (by simp; omega) fun ev hev => ?_)))))))
  · rcases (by simpa using hy) with rfl | rfl
    · exact st_of hsc hro rfl
    · exact st_of hsc hro rfl
  have ee : d.fixed.map AV.pair ++ d.loose.map AV.pair = d.every.map AV.pair := by unfold Drew.every; simp
  rw [ee]
  refine TEs_cons (fun env => rfl) (TE_cut (fun _ _ => rfl) (TE_name (ld_of hsc rfl) (v := .ref t) rfl (TE_int ⟨1, rfl, t, _, rfl, items_upd jt hev, by simp; omega, fun pt hpt => TEs_nil ⟨[.ref ev, .ref pt], rfl, by show 2 ≤ sizeLine; decide, _, rfl, rfl, ?_⟩⟩)))
  have ep : cut (d.its.map AV.int) (some 1) none = d.part.map AV.int := by unfold Drew.part; simp [cut]
  rw [ep]
  have kt := items_upd (o := .list (d.part.map .int)) (items_upd (o := .list (d.every.map .pair)) jt hev) hpt
  have kf := items_upd (o := .list (d.part.map .int)) (items_upd (o := .list (d.every.map .pair)) jf hev) hpt
  have kl := items_upd (o := .list (d.part.map .int)) (items_upd (o := .list (d.every.map .pair)) jl hev) hpt
  have ke := items_upd (o := .list (d.part.map .int)) (items_self (X := H1) (a := ev) (xs := d.every.map .pair)) hpt
  have kp := items_self (X := H1.upd ev (.list (d.every.map .pair))) (a := pt) (xs := d.part.map .int)
  generalize ((H1.upd ev (.list (d.every.map .pair))).upd pt (.list (d.part.map .int))) = X2 at *
  refine TSs_cons (TS_assignT (fun env => rfl) (fun env e => by obtain ⟨⟩ := env; cases (show _ = fnS 16 from e.trans hsc); rfl) (TE_tuple (TEs_cons (fun env => rfl) (TE_call k (gl_of hsc rfl) hfr Fr.callee (fun env => ⟨_, _, rfl, rfl⟩) (TEs_cons (fun env => rfl) (TE_name (ld_of hsc rfl) (v := .int d.n) rfl (TEs_cons (fun env => rfl) (TE_name (ld_of hsc rfl) (v := .ref ev) rfl (TEs_nil ?_)))))))))
  refine TC_rings Fr L.fs k (by omega) ke n5 (by have := D.el; omega) ein fun ri hri => ?_
  refine TEs_cons (fun env => rfl) (TE_call k (gl_of hsc rfl) hfr Fr.callee (fun env => ⟨_, _, rfl, rfl⟩) (TEs_cons (fun env => rfl) (TE_name (ld_of hsc rfl) (v := .int d.n) rfl (TEs_cons (fun env => rfl) (TE_name (ld_of hsc rfl) (v := .ref fa) rfl (TEs_nil ?_))))))
  refine TC_rings Fr L.fs k (by omega) (items_upd kf hri) n5 (by omega) D.fi fun fi hfi => TEs_nil ⟨[.ref ri, .ref fi], rfl, by show 2 ≤ sizeLine; decide, ?_⟩
  refine TA_tuple (xs := ["rings", "firm"]) (fun env => .name (.inr ⟨_, rfl⟩) (.name (.inr ⟨_, rfl⟩) .nil)) (fun env => rfl) (fun y hy => ?_) rfl rfl (fun env => rfl) ?_
  · rcases (by simpa using hy) with rfl | rfl
    · exact st_of hsc hro rfl
    · exact st_of hsc hro rfl
  have up : ∀ {z : Addr} {xs : List AV}, X2.items z = some xs → ((X2.upd ri (.list ((ringsOf d.n d.every).map .int))).upd fi (.list ((ringsOf d.n d.fixed).map .int))).items z = some xs := fun h => items_upd (items_upd h hri) hfi
  have lt := up kt
  have lf := up kf
  have ll := up kl
  have le := up ke
  have lp := up kp
  have lr := items_upd (o := .list ((ringsOf d.n d.fixed).map .int)) (items_self (X := X2) (a := ri) (xs := (ringsOf d.n d.every).map .int)) hfi
  have lfi := items_self (X := X2.upd ri (.list ((ringsOf d.n d.every).map .int))) (a := fi) (xs := (ringsOf d.n d.fixed).map .int)
  generalize ((X2.upd ri (.list ((ringsOf d.n d.every).map .int))).upd fi (.list ((ringsOf d.n d.fixed).map .int))) = X3 at *
  refine TSs_cons (TS_assign (fun env => rfl) (st_of hsc hro rfl) (TE_call k (gl_of hsc rfl) hfr Fr.callee (fun env => ⟨_, _, rfl, rfl⟩) (TEs_cons (fun env => rfl) (TE_name (ld_of hsc rfl) (v := .int d.n) rfl (TEs_cons (fun env => rfl) (TE_listcomp k (by rw [hsc]; rfl) rfl (fun env x => rfl) (TE_name (ld_of hsc rfl) (v := .ref ev) rfl ⟨_, _, (iter_list (xs := d.every.map .pair) le).some, fun xs hx => ?_⟩)))))))
  subst hx
  have h0 : d.its[0]? = some (d.its.headD 0) := by
    cases q : d.its with
    | nil => rw [q] at itl; simp at itl; omega
    | cons y ys => rfl
  refine ⟨onPair fun q => !(q.1 == d.its.headD 0 || q.2 == d.its.headD 0), id, by have := D.el; simp; omega, fun C' ρ' H' inn hcap hfz av ha => ?_, fun ap hap => ?_⟩
  · obtain ⟨q, hq, rfl⟩ := List.mem_map.mp ha
    have c_t : ρ' "tables" = some (.ref t) := hcap _ _ rfl rfl
    have h_t : H' t = some (.ro (d.its.map .int)) := hfz _ _ (fz_list lt)
    have hsc' := inn.sc
    rw [hsc] at hsc'
    refine TA_name (by unfold stOk; rw [hsc']; rfl) ⟨fun y v h1 h2 => ?_, ?_⟩
    · by_cases e : y = "pair"
      · subst e; exact absurd h1 (by decide)
      · rw [Loc.upd_ne _ _ e]; exact hcap y v h1 h2
    · exact TT_cmp rfl (TE_idx (fun _ _ => rfl) (TE_name (ld_of hsc' rfl) (v := .ref t) (by exact c_t) (TE_int ⟨t, d.its.map .int, 0, .int (d.its.headD 0), rfl, rfl, by unfold AHeap.items; rw [h_t]; rfl, by decide, by decide, by rw [List.getElem?_map]; show (d.its[0]?).map AV.int = _; rw [h0]; rfl, TE_name (ld_of hsc' rfl) (v := .pair q) rfl (T2_notinT ⟨_, rfl, rfl, rfl, fun _ => TE_name (ld_of hsc' rfl) (v := .pair q) rfl ⟨rfl, rfl⟩⟩)⟩)))
  rw [filter_onPairId]
  refine TEs_nil (TC_rings Fr L.fs k (by omega) items_self n5 ?_ (fun p hp => ein p (List.mem_filter.mp hp).1) fun am ham => ?_)
  · have := List.length_filter_le (fun q : Int × Int => !(q.1 == d.its.headD 0 || q.2 == d.its.headD 0)) d.every
    have := D.el; omega
  refine TSs_cons (TS_assignT (fun env => rfl) (fun env e => by obtain ⟨⟩ := env; cases (show _ = fnS 16 from e.trans hsc); rfl) (TE_tuple (TEs_cons (fun env => rfl) (TE_list (TEs_nil ⟨by decide, fun cy hcy => TEs_cons (fun env => rfl) (TE_list (TEs_nil ⟨by decide, fun la hla => TEs_nil ⟨[.ref cy, .ref la], rfl, by show 2 ≤ sizeLine; decide, ?_⟩⟩))⟩)))))
  refine TA_tuple (xs := ["cycles", "laid"]) (fun env => .name (.inr ⟨_, rfl⟩) (.name (.inr ⟨_, rfl⟩) .nil)) (fun env => rfl) (fun y hy => ?_) rfl rfl (fun env => rfl) ?_
  · rcases (by simpa using hy) with rfl | rfl
    · exact st_of hsc hro rfl
    · exact st_of hsc hro rfl
  have up4 : ∀ {z : Addr} {xs : List AV}, X3.items z = some xs → ((((X3.upd ap (.list ((d.every.filter fun q => !(q.1 == d.its.headD 0 || q.2 == d.its.headD 0)).map .pair))).upd am (.list ((ringsOf d.n (d.every.filter fun q => !(q.1 == d.its.headD 0 || q.2 == d.its.headD 0))).map .int))).upd cy (.list [])).upd la (.list [])).items z = some xs := fun h => items_upd (items_upd (items_upd (items_upd h hap) ham) hcy) hla
  have mam := items_upd (o := .list []) (items_upd (o := .list []) (items_self (X := X3.upd ap (.list ((d.every.filter fun q => !(q.1 == d.its.headD 0 || q.2 == d.its.headD 0)).map .pair))) (a := am) (xs := (ringsOf d.n (d.every.filter fun q => !(q.1 == d.its.headD 0 || q.2 == d.its.headD 0))).map .int)) hcy) hla
  have mcy := items_upd (o := .list []) (items_self (X := (X3.upd ap (.list ((d.every.filter fun q => !(q.1 == d.its.headD 0 || q.2 == d.its.headD 0)).map .pair))).upd am (.list ((ringsOf d.n (d.every.filter fun q => !(q.1 == d.its.headD 0 || q.2 == d.its.headD 0))).map .int))) (a := cy) (xs := [])) hla
  have mla := items_self (X := ((X3.upd ap (.list ((d.every.filter fun q => !(q.1 == d.its.headD 0 || q.2 == d.its.headD 0)).map .pair))).upd am (.list ((ringsOf d.n (d.every.filter fun q => !(q.1 == d.its.headD 0 || q.2 == d.its.headD 0))).map .int))).upd cy (.list [])) (a := la) (xs := [])
  have mt := up4 lt
  have mf := up4 lf
  have ml := up4 ll
  have me := up4 le
  have mp := up4 lp
  have mr := up4 lr
  have mfi := up4 lfi
  generalize ((((X3.upd ap (.list ((d.every.filter fun q => !(q.1 == d.its.headD 0 || q.2 == d.its.headD 0)).map .pair))).upd am (.list ((ringsOf d.n (d.every.filter fun q => !(q.1 == d.its.headD 0 || q.2 == d.its.headD 0))).map .int))).upd cy (.list [])).upd la (.list [])) = X4 at *
  have hold : ∀ b ∈ [ev, pt], ∃ o, X4 b = some o := fun b hb => by
    have q : ∀ {z : Addr} {xs : List AV}, X4.items z = some xs → ∃ o, X4 z = some o := fun {z xs} h => by
      unfold AHeap.items at h
      cases e : X4 z with
      | none => rw [e] at h; cases h
      | some o => exact ⟨o, rfl⟩
    rcases (by simpa using hb) with rfl | rfl
    · exact q me
    · exact q mp
  refine TSs_freeze (L := [ev, pt]) hold fun F => ?_
  exact law_try (C := C.holds F) (L.holds F) (k.holds F) hr hsc hro D (a := ⟨t, fa, lo, ev, pt, ri, fi, am⟩) ⟨rfl, rfl, rfl, rfl, rfl, rfl, rfl, rfl, rfl, items_fz mt, items_fz mf, items_fz ml, items_fz me, items_fz mp, items_fz mr, items_fz mfi, items_fz mam⟩ (cy := cy) (la := la) rfl rfl (items_fz mcy) (items_fz mla) (items_fz_in me (by simp)) (items_fz_in mp (by simp))
end
end Mine
end
section
open PySem PySem.W PyProof.Rows PySem.SeqAt
set_option maxRecDepth 10000
set_option autoImplicit false
set_option linter.unusedVariables false
namespace Mine
/-! Warshall's table of bits is what can be reached -/
theorem and_nat (x y : Nat) : Builtin.bitAnd (x : Int) (y : Int) = ((x &&& y : Nat) : Int) := by simp [Builtin.bitAnd]
theorem not_neg (x : Nat) : ¬ (0 ≤ Builtin.bitNot (x : Int)) := by unfold Builtin.bitNot; omega
theorem or_nat (x y : Nat) : Builtin.bitOr (x : Int) (y : Int) = ((x ||| y : Nat) : Int) := by
  have e : ∀ z : Nat, Builtin.bitNot (Builtin.bitNot (z : Int)) = z := fun z => by unfold Builtin.bitNot; omega
  unfold Builtin.bitOr Builtin.bitAnd
  rw [decide_eq_false (not_neg x), decide_eq_false (not_neg y)]
  dsimp only
  rw [e, e, e, Int.toNat_natCast, Int.toNat_natCast]
/-- the table holds naturals -/
def NatTab (a : List Int) : Prop := ∀ i, ∃ m : Nat, a.getD i 0 = m
theorem bit_nat {a : List Int} {i k m : Nat} (h : a.getD i 0 = m) : bitAt a i k = m.testBit k := by
  unfold bitAt
  rw [h]
  have e : ((m : Int)).fdiv (2 ^ k) = ((m / 2 ^ k : Nat) : Int) := by
    rw [Int.fdiv_eq_ediv_of_nonneg _ (by have := Int.pow_pos (n := 2) (m := k) (by decide : (0:Int) < 2); omega)]
    norm_cast
  rw [e]
  have e2 := and_nat (m / 2 ^ k) 1
  rw [show ((1 : Nat) : Int) = 1 from rfl] at e2
  rw [e2, Nat.testBit_eq_decide_div_mod_eq, Nat.and_one_is_mod]
  have : m / 2 ^ k % 2 = 0 ∨ m / 2 ^ k % 2 = 1 := by omega
  rcases this with q | q <;> rw [q] <;> rfl
theorem getD_set {a : List Int} {i j : Nat} {v : Int} (h : i < a.length) : (a.set i v).getD j 0 = if j = i then v else a.getD j 0 := by
  rw [List.getD_eq_getElem?_getD, List.getD_eq_getElem?_getD, List.getElem?_set]
  by_cases e : j = i
  · subst e; simp [h]
  · rw [if_neg (Ne.symm e), if_neg e]
theorem stepA_nat {a : List Int} {q : Int × Int} (t : NatTab a) (h : q.1.toNat < a.length) : NatTab (stepA a q) ∧ ∀ i k, bitAt (stepA a q) i k = true ↔ bitAt a i k = true ∨ (i = q.1.toNat ∧ k = q.2.toNat) := by
  obtain ⟨m, hm⟩ := t q.1.toNat
  have hv : Builtin.bitOr (a.getD q.1.toNat 0) (1 * 2 ^ q.2.toNat) = ((m ||| 2 ^ q.2.toNat : Nat) : Int) := by
    rw [hm, ← or_nat]; norm_cast; simp
  have hg : ∀ j, (stepA a q).getD j 0 = if j = q.1.toNat then ((m ||| 2 ^ q.2.toNat : Nat) : Int) else a.getD j 0 := fun j => by unfold stepA; rw [getD_set h, hv]
  refine ⟨fun j => ?_, fun i k => ?_⟩
  · rw [hg]
    split
    · exact ⟨_, rfl⟩
    · exact t j
  · by_cases e : i = q.1.toNat
    · subst e
      rw [bit_nat (m := m ||| 2 ^ q.2.toNat) (by rw [hg, if_pos rfl]), bit_nat hm, Nat.testBit_or, Nat.testBit_two_pow, Bool.or_eq_true, decide_eq_true_eq]
      constructor
      · rintro (x | x)
        · exact .inl x
        · exact .inr ⟨rfl, x.symm⟩
      · rintro (x | ⟨_, x⟩)
        · exact .inl x
        · exact .inr x.symm
    · obtain ⟨m', hm'⟩ := t i
      rw [bit_nat (m := m') (by rw [hg, if_neg e]; exact hm'), bit_nat hm']
      constructor
      · exact .inl
      · rintro (x | ⟨x, _⟩)
        · exact x
        · exact absurd x e
theorem stepB_nat {a : List Int} {mid t : Nat} (T : NatTab a) (h : t < a.length) : NatTab (stepB mid a t) ∧ ∀ i k, bitAt (stepB mid a t) i k = true ↔ bitAt a i k = true ∨ (i = t ∧ bitAt a t mid = true ∧ bitAt a mid k = true) := by
  have hc : (Builtin.bitAnd ((a.getD t 0).fdiv (2 ^ mid)) 1 != 0) = bitAt a t mid := rfl
  unfold stepB
  rw [hc]
  by_cases c : bitAt a t mid = true
  · rw [if_pos c]
    obtain ⟨m, hm⟩ := T t
    obtain ⟨u, hu⟩ := T mid
    have hv : Builtin.bitOr (a.getD t 0) (a.getD mid 0) = ((m ||| u : Nat) : Int) := by rw [hm, hu, or_nat]
    have hg : ∀ j, (a.set t (Builtin.bitOr (a.getD t 0) (a.getD mid 0))).getD j 0 = if j = t then ((m ||| u : Nat) : Int) else a.getD j 0 := fun j => by rw [getD_set h, hv]
    refine ⟨fun j => ?_, fun i k => ?_⟩
    · rw [hg]
      split
      · exact ⟨_, rfl⟩
      · exact T j
    · by_cases e : i = t
      · subst e
        rw [bit_nat (m := m ||| u) (by rw [hg, if_pos rfl]), bit_nat hm, bit_nat hu, Nat.testBit_or, Bool.or_eq_true]
        constructor
        · rintro (x | x)
          · exact .inl x
          · exact .inr ⟨rfl, c, x⟩
        · rintro (x | ⟨_, _, x⟩)
          · exact .inl x
          · exact .inr x
      · obtain ⟨m', hm'⟩ := T i
        rw [bit_nat (m := m') (by rw [hg, if_neg e]; exact hm'), bit_nat hm']
        constructor
        · exact .inl
        · rintro (x | ⟨x, _⟩)
          · exact x
          · exact absurd x e
  · rw [if_neg c]
    refine ⟨T, fun i k => ⟨.inl, ?_⟩⟩
    rintro (x | ⟨_, x, _⟩)
    · exact x
    · exact absurd x c
end Mine
end
section
open PySem PySem.W PyProof.Rows PySem.SeqAt
set_option maxRecDepth 10000
set_option autoImplicit false
set_option linter.unusedVariables false
namespace Mine
theorem foldB_nat {mid : Nat} : ∀ (l : List Nat) (a : List Int), NatTab a → (∀ t ∈ l, t < a.length) → NatTab (l.foldl (stepB mid) a) ∧ ∀ i k, bitAt (l.foldl (stepB mid) a) i k = true ↔ bitAt a i k = true ∨ (i ∈ l ∧ bitAt a i mid = true ∧ bitAt a mid k = true)
  | [], a, T, _ => ⟨T, fun i k => by simp⟩
  | t :: l, a, T, h => by
    obtain ⟨T1, e1⟩ := stepB_nat (mid := mid) T (h t List.mem_cons_self)
    obtain ⟨T2, e2⟩ := foldB_nat l (stepB mid a t) T1 fun t' ht => by rw [stepB_length]; exact h t' (List.mem_cons_of_mem _ ht)
    refine ⟨T2, fun i k => ?_⟩
    rw [List.foldl_cons, e2]
    have q1 : bitAt (stepB mid a t) i mid = true ↔ bitAt a i mid = true := by
      rw [e1]
      constructor
      · rintro (x | ⟨rfl, x, _⟩)
        · exact x
        · exact x
      · exact .inl
    have q2 : bitAt (stepB mid a t) mid k = true ↔ bitAt a mid k = true := by
      rw [e1]
      constructor
      · rintro (x | ⟨_, _, x⟩)
        · exact x
        · exact x
      · exact .inl
    rw [q1, q2, e1, List.mem_cons]
    constructor
    · rintro ((x | ⟨rfl, x, y⟩) | ⟨x, y, z⟩)
      · exact .inl x
      · exact .inr ⟨.inl rfl, x, y⟩
      · exact .inr ⟨.inr x, y, z⟩
    · rintro (x | ⟨rfl | x, y, z⟩)
      · exact .inl (.inl x)
      · exact .inl (.inr ⟨rfl, y, z⟩)
      · exact .inr ⟨x, y, z⟩
theorem foldA_nat : ∀ (ps : List (Int × Int)) (a : List Int), NatTab a → (∀ p ∈ ps, p.1.toNat < a.length) → NatTab (ps.foldl stepA a) ∧ ∀ i k, bitAt (ps.foldl stepA a) i k = true ↔ bitAt a i k = true ∨ ∃ p ∈ ps, i = p.1.toNat ∧ k = p.2.toNat
  | [], a, T, _ => ⟨T, fun i k => by simp⟩
  | q :: ps, a, T, h => by
    obtain ⟨T1, e1⟩ := stepA_nat (q := q) T (h q List.mem_cons_self)
    obtain ⟨T2, e2⟩ := foldA_nat ps (stepA a q) T1 fun p hp => by rw [stepA_length]; exact h p (List.mem_cons_of_mem _ hp)
    refine ⟨T2, fun i k => ?_⟩
    rw [List.foldl_cons, e2, e1]
    constructor
    · rintro ((x | ⟨x, y⟩) | ⟨p, hp, x⟩)
      · exact .inl x
      · exact .inr ⟨q, List.mem_cons_self, x, y⟩
      · exact .inr ⟨p, List.mem_cons_of_mem _ hp, x⟩
    · rintro (x | ⟨p, hp, x⟩)
      · exact .inl (.inl x)
      · rcases List.mem_cons.mp hp with rfl | hp
        · exact .inl (.inr x)
        · exact .inr ⟨p, hp, x⟩
/-- closed over the first m -/
def Clo (n m : Nat) (a : List Int) : Prop := ∀ i j k, i < n → j < m → bitAt a i j = true → bitAt a j k = true → bitAt a i k = true
theorem foldC_nat {n : Nat} {R : Nat → Nat → Prop} (tr : ∀ i j k, R i j → R j k → R i k) : ∀ (m : Nat) (a : List Int), m ≤ n → NatTab a → a.length = n → (∀ i k, bitAt a i k = true → R i k) →
    NatTab ((List.range m).foldl (fun a mid => (List.range n).foldl (stepB mid) a) a) ∧ ((List.range m).foldl (fun a mid => (List.range n).foldl (stepB mid) a) a).length = n ∧ (∀ i k, bitAt ((List.range m).foldl (fun a mid => (List.range n).foldl (stepB mid) a) a) i k = true → R i k) ∧
    (∀ i k, bitAt a i k = true → bitAt ((List.range m).foldl (fun a mid => (List.range n).foldl (stepB mid) a) a) i k = true) ∧ Clo n m ((List.range m).foldl (fun a mid => (List.range n).foldl (stepB mid) a) a)
  | 0, a, _, T, hl, hR => ⟨T, hl, hR, fun _ _ h => h, fun i j k _ hj => absurd hj (Nat.not_lt_zero _)⟩
  | m + 1, a, hm, T, hl, hR => by
    obtain ⟨T1, l1, R1, s1, c1⟩ := foldC_nat tr m a (by omega) T hl hR
    rw [List.range_succ, List.foldl_append, List.foldl_cons, List.foldl_nil]
    generalize (List.range m).foldl (fun a mid => (List.range n).foldl (stepB mid) a) a = b at *
    obtain ⟨T2, e2⟩ := foldB_nat (mid := m) (List.range n) b T1 fun t ht => by rw [l1]; exact List.mem_range.mp ht
    refine ⟨T2, (foldB_length m _ b).trans l1, fun i k h => ?_, fun i k h => (e2 i k).mpr (.inl (s1 i k h)), fun i j k hi hj h1 h2 => ?_⟩
    · rcases (e2 i k).mp h with x | ⟨_, x, y⟩
      · exact R1 i k x
      · exact tr _ _ _ (R1 _ _ x) (R1 _ _ y)
    · have mi : i ∈ List.range n := List.mem_range.mpr hi
      rw [e2] at h1 h2 ⊢
      rcases Nat.lt_succ_iff_lt_or_eq.mp hj with hj | rfl
      · rcases h1 with x | ⟨_, x1, x2⟩ <;> rcases h2 with y | ⟨_, y1, y2⟩
        · exact .inl (c1 i j k hi hj x y)
        · exact .inr ⟨mi, c1 i j m hi hj x y1, y2⟩
        · exact .inr ⟨mi, x1, c1 m j k (by omega) hj x2 y⟩
        · exact .inr ⟨mi, x1, y2⟩
      · have a1 : bitAt b i j = true := by
          rcases h1 with x | ⟨_, x, _⟩ <;> exact x
        have a2 : bitAt b j k = true := by
          rcases h2 with y | ⟨_, _, y⟩ <;> exact y
        exact .inr ⟨mi, a1, a2⟩
/-- the table tells what can be reached -/
theorem ahead_reach {n : Nat} {ps : List (Int × Int)} (hin : ∀ p ∈ ps, (0 ≤ p.1 ∧ p.1 < n) ∧ 0 ≤ p.2 ∧ p.2 < n) {i k : Nat} (hi : i < n) : bitAt (aheadOf n ps) i k = true ↔ Reach ps i k := by
  have T0 : NatTab (List.replicate n (0 : Int)) := fun j => ⟨0, by rw [List.getD_eq_getElem?_getD, List.getElem?_replicate]; split <;> rfl⟩
  have z : ∀ j k, bitAt (List.replicate n (0 : Int)) j k = false := fun j k => by
    rw [bit_nat (m := 0) (by rw [List.getD_eq_getElem?_getD, List.getElem?_replicate]; split <;> rfl), Nat.zero_testBit]
  obtain ⟨T1, e1⟩ := foldA_nat ps (List.replicate n 0) T0 fun p hp => by have := hin p hp; simp; omega
  have l1 : (ps.foldl stepA (List.replicate n 0)).length = n := by rw [foldA_length]; simp
  have edge : ∀ j k : Nat, bitAt (ps.foldl stepA (List.replicate n 0)) j k = true ↔ ((j : Int), (k : Int)) ∈ ps := fun j k => by
    rw [e1, z]
    constructor
    · rintro (x | ⟨p, hp, rfl, rfl⟩)
      · cases x
      · have := hin p hp
        have e : (((p.1.toNat : Nat) : Int), ((p.2.toNat : Nat) : Int)) = p := Prod.ext (by simp; omega) (by simp; omega)
        rw [e]; exact hp
    · intro h
      exact .inr ⟨_, h, by simp, by simp⟩
  obtain ⟨T2, l2, R2, s2, c2⟩ := foldC_nat (n := n) (R := fun i k => Reach ps i k) (fun _ _ _ => Reach.trans) n _ (Nat.le_refl _) T1 l1 fun i k h => .one ((edge i k).mp h)
  refine ⟨R2 i k, fun h => ?_⟩
  have key : ∀ x y : Int, Reach ps x y → ∀ i k : Nat, x = i → y = k → bitAt (aheadOf n ps) i k = true := fun x y h => by
    induction h with
    | one h => intro i k e1 e2; subst e1; subst e2; exact s2 i k ((edge i k).mpr h)
    | @step a b c h _ ih =>
      intro i k e1 e2
      subst e1; subst e2
      have hb := hin _ h
      obtain ⟨j, hj⟩ : ∃ j : Nat, b = j := ⟨b.toNat, by have := hb.2.1; simp at this; omega⟩
      subst hj
      have hb1 := hb.1.2
      have hb2 := hb.2.2
      dsimp only at hb1 hb2
      exact c2 i j k (by omega) (by omega) (s2 i j ((edge i j).mpr h)) (ih j k rfl rfl)
  exact key _ _ h i k rfl rfl
end Mine
end
section
open PySem PySem.W PyProof.Rows PySem.SeqAt
set_option maxRecDepth 10000
set_option autoImplicit false
set_option linter.unusedVariables false
namespace Mine
/-- all in a range -/
def InR (n : Nat) (ps : List (Int × Int)) : Prop := ∀ p ∈ ps, (0 ≤ p.1 ∧ p.1 < n) ∧ 0 ≤ p.2 ∧ p.2 < n
theorem Reach.range {n : Nat} {ps : List (Int × Int)} (h : InR n ps) {a b : Int} (r : Reach ps a b) : (0 ≤ a ∧ a < n) ∧ 0 ≤ b ∧ b < n := by
  obtain ⟨x, h1, _⟩ := r.first
  obtain ⟨y, _, h2⟩ := r.last
  exact ⟨(h _ h1).1, (h _ h2).2⟩
theorem mem_upto {n : Nat} {x : Int} : x ∈ upto n ↔ ∃ i : Nat, i < n ∧ x = i := by
  unfold upto
  rw [List.mem_map]
  constructor
  · rintro ⟨i, hi, rfl⟩; exact ⟨i, List.mem_range.mp hi, rfl⟩
  · rintro ⟨i, hi, rfl⟩; exact ⟨i, List.mem_range.mpr hi, rfl⟩
theorem upto_lt (n : Nat) : (upto n).Pairwise (· < ·) := by
  unfold upto
  rw [List.pairwise_map]
  exact List.pairwise_lt_range.imp fun {a b} h => by show (a : Int) < (b : Int); omega
theorem range_nat {n : Nat} {x : Int} (h : 0 ≤ x ∧ x < n) : ∃ i : Nat, i < n ∧ x = i := ⟨x.toNat, by omega, by omega⟩
/-- the list of the nodes on rings -/
structure RingList (ps : List (Int × Int)) (rs : List Int) : Prop where
  lt : rs.Pairwise (· < ·)
  mem : ∀ x, x ∈ rs ↔ Ring ps x
theorem rings_list {n : Nat} {ps : List (Int × Int)} (h : InR n ps) : RingList ps (ringsOf n ps) where
  lt := (upto_lt n).filter _
  mem := fun x => by
    unfold ringsOf
    rw [List.mem_filter, mem_upto]
    constructor
    · rintro ⟨⟨i, hi, rfl⟩, hb⟩
      rw [Int.toNat_natCast] at hb
      exact (ahead_reach h hi).mp hb
    · intro r
      obtain ⟨i, hi, rfl⟩ := range_nat (r.range h).1
      refine ⟨⟨i, hi, rfl⟩, ?_⟩
      rw [Int.toNat_natCast]
      exact (ahead_reach h hi).mpr r
theorem reach_snoc {ws : List (Int × Int)} {q : Int × Int} {a b : Int} (r : Reach (ws ++ [q]) a b) : Reach ws a b ∨ ((a = q.1 ∨ Reach ws a q.1) ∧ (b = q.2 ∨ Reach ws q.2 b)) := by
  induction r with
  | one h =>
    rcases List.mem_append.mp h with h | h
    · exact .inl (.one h)
    · simp at h; subst h; exact .inr ⟨.inl rfl, .inl rfl⟩
  | @step a b c h _ ih =>
    rcases List.mem_append.mp h with h | h
    · rcases ih with ih | ⟨h1, h2⟩
      · exact .inl (.step h ih)
      · refine .inr ⟨.inr ?_, h2⟩
        rcases h1 with rfl | h1
        · exact .one h
        · exact .step h h1
    · simp at h
      rcases ih with ih | ⟨_, h2⟩
      · exact .inr ⟨.inl (by rw [← h]), .inr (by rw [← h]; exact ih)⟩
      · exact .inr ⟨.inl (by rw [← h]), h2⟩
theorem between_list {n : Nat} {ws : List (Int × Int)} {q : Int × Int} (h : InR n ws) (hq : (0 ≤ q.1 ∧ q.1 < n) ∧ 0 ≤ q.2 ∧ q.2 < n) (ac : ∀ x, ¬ Ring ws x) : RingList (ws ++ [q]) (betweenOf n ws q) where
  lt := ((upto_lt n).filter _).filter _
  mem := fun x => by
    have h2 : InR n (ws ++ [q]) := fun p hp => by
      rcases List.mem_append.mp hp with hp | hp
      · exact h p hp
      · simp at hp; subst hp; exact hq
    have mono : ∀ {a b}, Reach ws a b → Reach (ws ++ [q]) a b := fun r => r.mono fun p hp => List.mem_append_left _ hp
    have eq : Reach (ws ++ [q]) q.1 q.2 := .one (List.mem_append_right _ (by simp))
    obtain ⟨i1, l1, e1⟩ := range_nat hq.1
    obtain ⟨i2, l2, e2⟩ := range_nat hq.2
    unfold betweenOf
    rw [List.mem_filter, List.mem_filter, mem_upto, Bool.or_eq_true, Bool.or_eq_true, beq_iff_eq, beq_iff_eq]
    constructor
    · rintro ⟨⟨⟨i, hi, rfl⟩, h3⟩, h4⟩
      rw [Int.toNat_natCast] at h3 h4
      have r1 : (i : Int) = q.2 ∨ Reach ws q.2 i := h3.imp_right fun hb => by
        rw [e2, Int.toNat_natCast] at hb
        rw [e2]; exact (ahead_reach h l2).mp hb
      have r2 : (i : Int) = q.1 ∨ Reach ws i q.1 := h4.imp_right fun hb => by
        rw [e1, Int.toNat_natCast] at hb
        rw [e1]; exact (ahead_reach h hi).mp hb
      have s1 : Reach (ws ++ [q]) q.1 i := by
        rcases r1 with r1 | r1
        · rw [r1]; exact eq
        · exact eq.trans (mono r1)
      rcases r2 with r2 | r2
      · show Reach _ (i : Int) i
        have : q.1 = (i : Int) := r2.symm
        rw [this] at s1; exact s1
      · exact (mono r2).trans s1
    · intro r
      obtain ⟨i, hi, rfl⟩ := range_nat (r.range h2).1
      rcases reach_snoc r with r | ⟨h3, h4⟩
      · exact absurd r (ac _)
      · rw [Int.toNat_natCast]
        refine ⟨⟨⟨i, hi, rfl⟩, h4.imp_right fun r => ?_⟩, h3.imp_right fun r => ?_⟩
        · rw [e2, Int.toNat_natCast]
          exact (ahead_reach h l2).mpr (by rw [← e2]; exact r)
        · rw [e1, Int.toNat_natCast]
          exact (ahead_reach h hi).mpr (by rw [← e1]; exact r)
end Mine
end
section
open PySem PySem.W PyProof.Rows PySem.SeqAt
set_option maxRecDepth 10000
set_option autoImplicit false
set_option linter.unusedVariables false
namespace Mine
theorem mem_layer {ps : List (Int × Int)} {td : List Int} {x : Int} : x ∈ layerOf ps td ↔ x ∈ td ∧ ∀ y ∈ td, (y, x) ∉ ps := by
  unfold layerOf freeB
  rw [List.mem_filter, decide_eq_true_eq]
  constructor
  · rintro ⟨h, f⟩; exact ⟨h, fun y hy q => f y hy (mem_par.mpr q)⟩
  · rintro ⟨h, f⟩; exact ⟨h, fun y hy q => f y hy (mem_par.mp q)⟩
theorem mem_left {ps : List (Int × Int)} {td : List Int} {x : Int} : x ∈ leftOf ps td ↔ x ∈ td ∧ x ∉ layerOf ps td := by
  unfold leftOf layerOf
  rw [List.mem_filter, List.mem_filter]
  cases h : freeB ps td x <;> simp
theorem layer_left {ps : List (Int × Int)} {td : List Int} : (layerOf ps td ++ leftOf ps td).Perm td := by
  unfold layerOf leftOf
  exact List.filter_append_perm _ _
theorem lays_some (ps : List (Int × Int)) : ∀ (n : Nat) (td : List Int), td.length ≤ n → ∃ LL bad, Lays ps td LL bad
  | 0, td, h => by
    obtain rfl : td = [] := List.eq_nil_of_length_eq_zero (by omega)
    exact ⟨_, _, .done⟩
  | n + 1, td, h => by
    by_cases e : td = []
    · subst e; exact ⟨_, _, .done⟩
    · by_cases l : layerOf ps td = []
      · exact ⟨_, _, .stuck e l⟩
      · have hl := (layer_left (ps := ps) (td := td)).length_eq
        rw [List.length_append] at hl
        have : 0 < (layerOf ps td).length := List.length_pos_iff.mpr l
        obtain ⟨LL, bad, L⟩ := lays_some ps n (leftOf ps td) (by omega)
        exact ⟨_, _, .step e l L⟩
theorem lays_len {ps : List (Int × Int)} {td : List Int} {LL : List (List Int)} {bad : Bool} (L : Lays ps td LL bad) : LL.flatten.length ≤ td.length ∧ (bad = false → LL.flatten.Perm td) := by
  induction L with
  | done => exact ⟨Nat.le_refl _, fun _ => .nil⟩
  | stuck h _ => exact ⟨Nat.zero_le _, fun q => nomatch q⟩
  | @step td Ls bad h1 h2 L ih =>
    have hl := (layer_left (ps := ps) (td := td)).length_eq
    rw [List.length_append] at hl
    rw [List.flatten_cons]
    refine ⟨by rw [List.length_append]; omega, fun q => ((ih.2 q).append_left _).trans layer_left⟩
/-- the edges within td -/
def inner (ps : List (Int × Int)) (td : List Int) : List (Int × Int) := ps.filter fun p => decide (p.1 ∈ td) && decide (p.2 ∈ td)
theorem mem_inner {ps : List (Int × Int)} {td : List Int} {p : Int × Int} : p ∈ inner ps td ↔ p ∈ ps ∧ p.1 ∈ td ∧ p.2 ∈ td := by
  unfold inner
  rw [List.mem_filter, Bool.and_eq_true, decide_eq_true_eq, decide_eq_true_eq]
/-- a walk backward that never stops, in a finite list, is on a ring -/
theorem back_ring {ps : List (Int × Int)} {td : List Int} (hp : ∀ x ∈ td, ∃ y ∈ td, (y, x) ∈ ps) (hne : td ≠ []) : ∃ x, Ring (inner ps td) x := by
  obtain ⟨x0, h0⟩ := List.exists_mem_of_ne_nil td hne
  refine Classical.byContradiction fun nr => ?_
  have key : ∀ n : Nat, ∃ l : List Int, l.length = n + 1 ∧ l.Nodup ∧ (∀ x ∈ l, x ∈ td) ∧ ∃ h r, l = h :: r ∧ ∀ x ∈ r, Reach (inner ps td) h x := by
    intro n
    induction n with
    | zero => exact ⟨[x0], rfl, by simp, by simpa using h0, x0, [], rfl, fun x hx => nomatch hx⟩
    | succ n ih =>
      obtain ⟨l, hl, hn, ht, h, r, rfl, hr⟩ := ih
      have hh := ht h List.mem_cons_self
      obtain ⟨y, hy, e⟩ := hp h hh
      have ey : Reach (inner ps td) y h := .one (mem_inner.mpr ⟨e, hy, hh⟩)
      have hyr : ∀ x ∈ h :: r, Reach (inner ps td) y x := fun x hx => by
        rcases List.mem_cons.mp hx with rfl | hx
        · exact ey
        · exact ey.trans (hr x hx)
      refine ⟨y :: h :: r, by rw [List.length_cons, hl], List.nodup_cons.mpr ⟨fun q => nr ⟨y, hyr y q⟩, hn⟩, fun x hx => ?_, y, _, rfl, hyr⟩
      rcases List.mem_cons.mp hx with rfl | hx
      · exact hy
      · exact ht x hx
  obtain ⟨l, hl, hn, ht, _⟩ := key td.length
  have := length_le_of_sub hn ht
  omega
theorem lays_bad {ps : List (Int × Int)} {td : List Int} {LL : List (List Int)} {bad : Bool} (L : Lays ps td LL bad) : (bad = true → ∃ x, Ring (inner ps td) x) ∧ (bad = false → ∀ x, ¬ Ring (inner ps td) x) := by
  induction L with
  | done => exact ⟨fun q => (nomatch q), fun _ x r => by
      obtain ⟨y, h, _⟩ := Reach.first r
      have := (mem_inner.mp h).2.1
      cases this⟩
  | @stuck td h1 h2 =>
    refine ⟨fun _ => back_ring (fun x hx => ?_) h1, fun q => nomatch q⟩
    refine Classical.byContradiction fun q => ?_
    have : x ∈ layerOf ps td := mem_layer.mpr ⟨hx, fun y hy e => q ⟨y, hy, e⟩⟩
    rw [h2] at this; cases this
  | @step td Ls bad h1 h2 L ih =>
    have sub : ∀ p ∈ inner ps (leftOf ps td), p ∈ inner ps td := fun p hp => by
      obtain ⟨a, b, c⟩ := mem_inner.mp hp
      exact mem_inner.mpr ⟨a, (mem_left.mp b).1, (mem_left.mp c).1⟩
    refine ⟨fun q => (ih.1 q).imp fun x r => r.mono sub, fun q x r => ?_⟩
    -- nothing leads into the layer, so the ring is in what is left
    have noin : ∀ a b, Reach (inner ps td) a b → b ∉ layerOf ps td := fun a b r hb => by
      obtain ⟨y, _, e⟩ := r.last
      obtain ⟨e1, e2, _⟩ := mem_inner.mp e
      exact (mem_layer.mp hb).2 y e2 e1
    have inl : ∀ a b, Reach (inner ps td) a b → b ∈ leftOf ps td := fun a b r => by
      obtain ⟨y, _, e⟩ := r.last
      exact mem_left.mpr ⟨(mem_inner.mp e).2.2, noin a b r⟩
    have lift : ∀ a b, Reach (inner ps td) a b → a ∈ leftOf ps td → Reach (inner ps (leftOf ps td)) a b := fun a b r => by
      induction r with
      | @one a b h => exact fun ha => .one (mem_inner.mpr ⟨(mem_inner.mp h).1, ha, inl a b (.one h)⟩)
      | @step a b c h r ih2 =>
        intro ha
        have hb := inl a b (.one h)
        exact .step (mem_inner.mpr ⟨(mem_inner.mp h).1, ha, hb⟩) (ih2 hb)
    exact ih.2 q x (lift x x r (inl x x r))
theorem laid_append {ps : List (Int × Int)} {ts : List Int} : ∀ (l1 l2 made : List Int), laidOk ps ts made (l1 ++ l2) = (laidOk ps ts made l1 && laidOk ps ts (made ++ l1) l2)
  | [], l2, made => by
    rw [List.nil_append, List.append_nil]
    show laidOk ps ts made l2 = (true && laidOk ps ts made l2)
    rw [Bool.true_and]
  | x :: l1, l2, made => by
    show (!decide (x ∈ made) && (wants' ps ts made x).isEmpty && laidOk ps ts (made ++ [x]) (l1 ++ l2)) = _
    rw [laid_append l1 l2]
    show _ = ((!decide (x ∈ made) && (wants' ps ts made x).isEmpty && laidOk ps ts (made ++ [x]) l1) && laidOk ps ts (made ++ x :: l1) l2)
    rw [show made ++ [x] ++ l1 = made ++ x :: l1 from by simp, Bool.and_assoc]
    simp only [Bool.and_assoc]
/-- ones that nothing left must come ahead of may be laid in any order -/
theorem laid_layer {ps : List (Int × Int)} {ts td : List Int} : ∀ (l made : List Int), (∀ x ∈ l, ∀ y ∈ td, (y, x) ∉ ps) → l.Nodup → (∀ x ∈ l, x ∉ made) → (∀ y ∈ ts, y ∈ td ∨ y ∈ made) → laidOk ps ts made l = true
  | [], made, _, _, _, _ => rfl
  | x :: l, made, hf, hn, hm, ht => by
    rw [List.nodup_cons] at hn
    show (!decide (x ∈ made) && (wants' ps ts made x).isEmpty && laidOk ps ts (made ++ [x]) l) = true
    have e1 : (wants' ps ts made x).isEmpty = true := by
      rw [List.isEmpty_iff]
      unfold wants'
      rw [List.map_eq_nil_iff, List.filter_eq_nil_iff]
      rintro ⟨y, z⟩ hq h
      simp only [Bool.and_eq_true, beq_iff_eq, decide_eq_true_eq, Bool.not_eq_true', decide_eq_false_iff_not] at h
      obtain ⟨⟨rfl, h1⟩, h2⟩ := h
      rcases ht y h1 with h3 | h3
      · exact hf z List.mem_cons_self y h3 hq
      · exact h2 h3
    rw [df _ (hm x List.mem_cons_self), e1, laid_layer l (made ++ [x]) (fun z hz => hf z (List.mem_cons_of_mem _ hz)) hn.2 (fun z hz q => ?_) fun y hy => ?_]
    · rfl
    · rcases List.mem_append.mp q with q | q
      · exact hm z (List.mem_cons_of_mem _ hz) q
      · simp at q; subst q; exact hn.1 hz
    · exact (ht y hy).imp_right (List.mem_append_left _)
theorem lays_right {ps : List (Int × Int)} {ts td : List Int} {LL : List (List Int)} {bad : Bool} (L : Lays ps td LL bad) : bad = false → ∀ made : List Int, (∀ y ∈ ts, y ∈ td ∨ y ∈ made) → (∀ y ∈ td, y ∉ made) → td.Nodup → laidOk ps ts made LL.flatten = true := by
  induction L with
  | done => intro _ made _ _ _; rfl
  | stuck _ _ => intro q; cases q
  | @step td Ls bad h1 h2 L ih =>
    intro q made ht hm hn
    rw [List.flatten_cons, laid_append]
    have s1 := laid_layer (ps := ps) (ts := ts) (td := td) (layerOf ps td) made (fun x hx => (mem_layer.mp hx).2) (hn.filter _) (fun x hx => hm x (mem_layer.mp hx).1) ht
    rw [s1, Bool.true_and]
    refine ih q _ (fun y hy => ?_) (fun y hy q2 => ?_) (hn.filter _)
    · rcases ht y hy with h | h
      · by_cases c : y ∈ layerOf ps td
        · exact .inr (List.mem_append_right _ c)
        · exact .inl (mem_left.mpr ⟨h, c⟩)
      · exact .inr (List.mem_append_left _ h)
    · obtain ⟨h3, h4⟩ := mem_left.mp hy
      rcases List.mem_append.mp q2 with q2 | q2
      · exact hm y h3 q2
      · exact h4 q2
theorem sub_len {α : Type} [DecidableEq α] : ∀ {l m : List α}, l.Nodup → (∀ x ∈ l, x ∈ m) → l.length ≤ m.length
  | [], m, _, _ => Nat.zero_le _
  | x :: xs, m, h, hs => by
    rw [List.nodup_cons] at h
    have hx := hs x List.mem_cons_self
    have := sub_len (l := xs) (m := m.erase x) h.2 fun y hy => (List.mem_erase_of_ne (by rintro rfl; exact h.1 hy)).mpr (hs y (List.mem_cons_of_mem _ hy))
    rw [List.length_erase_of_mem hx] at this
    have : 0 < m.length := List.length_pos_of_mem hx
    simp only [List.length_cons]; omega
theorem par_count (ps : List (Int × Int)) (ks : List Int) (h : ks.Nodup) : (ks.map fun x => (par ps x).length).sum ≤ ps.length := by
  have e : ∀ ks : List Int, (ks.map fun x => (par ps x).length).sum = (ks.flatMap fun x => (par ps x).map fun y => (y, x)).length := fun ks => by
    induction ks with
    | nil => rfl
    | cons k ks ih => rw [List.map_cons, List.sum_cons, ih, List.flatMap_cons, List.length_append, List.length_map]
  rw [e]
  refine sub_len ?_ fun p hp => ?_
  · rw [List.nodup_iff_pairwise_ne, List.pairwise_flatMap]
    refine ⟨fun k _ => ?_, h.imp fun {a b} hab x hx y hy exy => ?_⟩
    · rw [List.pairwise_map]
      exact (succ_nodup (ps := ps.map Prod.swap) (k := k)).imp fun {a b} hab e => hab (by cases e; rfl)
    · obtain ⟨u, _, rfl⟩ := List.mem_map.mp hx
      obtain ⟨v, _, rfl⟩ := List.mem_map.mp hy
      cases exy; exact hab rfl
  · obtain ⟨k, _, hk⟩ := List.mem_flatMap.mp hp
    obtain ⟨u, hu, rfl⟩ := List.mem_map.mp hk
    exact mem_par.mp hu
end Mine
end
section
open PySem PySem.W PyProof.Rows PySem.SeqAt
set_option maxRecDepth 10000
set_option autoImplicit false
set_option linter.unusedVariables false
namespace Mine
theorem upto_nodup (n : Nat) : (upto n).Nodup := (upto_lt n).imp fun {a b} h => Int.ne_of_lt h
theorem in5 {n : Nat} (n5 : n ≤ 5) {ps : List (Int × Int)} (h : InR n ps) : ∀ p ∈ ps, (0 ≤ p.1 ∧ p.1 < 5) ∧ 0 ≤ p.2 ∧ p.2 < 5 := fun p hp => by
  have := h p hp
  omega
theorem sortok_of {n : Nat} (n5 : n ≤ 5) {ps : List (Int × Int)} {its : List Int} {LL : List (List Int)} {bad : Bool} (h : InR n ps) (len : ps.length < 12) (hs : ∀ x ∈ its, x ∈ upto n) (hn : its.Nodup) (L : Lays ps its LL bad) : SortOk ps its LL bad where
  len := len
  inn := in5 n5 h
  cnt := fun ks hk => Nat.lt_of_le_of_lt (par_count ps ks hk) len
  hit := fun x hx => by
    obtain ⟨i, hi, rfl⟩ := mem_upto.mp (hs x hx)
    omega
  hnd := hn
  lays := L
  few := by
    have h1 := (lays_len L).1
    have h2 := sub_len hn hs
    rw [upto_length] at h2
    omega
theorem right_for {n : Nat} (n5 : n ≤ 5) {ps : List (Int × Int)} {its rs : List Int} (h : InR n ps) (len : ps.length < 12) (hp : its.Perm (upto n)) (rl : RingList ps rs) : RightFor ps its rs := by
  obtain ⟨LL, bad, L⟩ := lays_some ps its.length its (Nat.le_refl _)
  have hn : its.Nodup := hp.nodup_iff.mpr (upto_nodup n)
  have hin : ∀ p ∈ ps, p ∈ inner ps its := fun p hq => by
    have := h p hq
    exact mem_inner.mpr ⟨hq, hp.mem_iff.mpr (mem_upto.mpr (range_nat this.1)), hp.mem_iff.mpr (mem_upto.mpr (range_nat this.2))⟩
  refine ⟨LL, bad, sortok_of n5 h len (fun x hx => hp.mem_iff.mp hx) hn L, fun hb => ⟨?_, ?_, (lays_len L).2 hb⟩, fun hb => ⟨?_, rl.lt, rl.mem⟩⟩
  · rw [List.eq_nil_iff_forall_not_mem]
    exact fun x hx => (lays_bad L).2 hb x (((rl.mem x).mp hx).mono hin)
  · exact lays_right L hb [] (fun y hy => .inl hy) (fun y hy q => nomatch q) hn
  · obtain ⟨x, r⟩ := (lays_bad L).1 hb
    intro e
    have := (rl.mem x).mpr (r.mono fun p hq => (mem_inner.mp hq).1)
    rw [e] at this; cases this
/-- on a ring every edge is between nodes on rings -/
theorem ring_edges {ps : List (Int × Int)} {a b : Int} (r : Reach ps a b) : ∀ {P : Int × Int → Prop}, (∀ p ∈ ps, Ring ps p.1 → Ring ps p.2 → P p) → Reach ps b a → ∀ qs : List (Int × Int), (∀ p ∈ ps, P p → p ∈ qs) → Reach qs a b := by
  induction r with
  | @one a b h =>
    intro P hP back qs hq
    exact .one (hq _ h (hP _ h (.step h back) (back.trans (.one h))))
  | @step a b c h r ih =>
    intro P hP back qs hq
    have ra : Ring ps a := .step h (r.trans back)
    have rb : Ring ps b := (r.trans back).trans (.one h)
    exact .step (hq _ h (hP _ h ra rb)) (ih hP (back.trans (.one h)) qs hq)
theorem dPair_in {n : Nat} (hn : 0 < n) (x : Int) : (0 ≤ (dPair n x).1 ∧ (dPair n x).1 < n) ∧ 0 ≤ (dPair n x).2 ∧ (dPair n x).2 < n := by
  unfold dPair
  have h0 : (0 : Int) < n := by omega
  exact ⟨⟨Int.fmod_nonneg_of_pos _ h0, Int.fmod_lt_of_pos _ h0⟩, Int.fmod_nonneg_of_pos _ h0, Int.fmod_lt_of_pos _ h0⟩
theorem dFold_in {n : Nat} (hn : 0 < n) : ∀ (l : List Int) (fl : List (Int × Int) × List (Int × Int)), InR n fl.1 → InR n fl.2 → (∀ p ∈ fl.1, p ∉ fl.2) → InR n (l.foldl (dStep n) fl).1 ∧ InR n (l.foldl (dStep n) fl).2 ∧ ∀ p ∈ (l.foldl (dStep n) fl).1, p ∉ (l.foldl (dStep n) fl).2
  | [], fl, h1, h2, h3 => ⟨h1, h2, h3⟩
  | x :: l, fl, h1, h2, h3 => by
    rw [List.foldl_cons]
    have hx := dPair_in hn x
    have app : ∀ {ps : List (Int × Int)}, InR n ps → InR n (ps ++ [dPair n x]) := fun h p hp => by
      rcases List.mem_append.mp hp with hp | hp
      · exact h p hp
      · simp at hp; subst hp; exact hx
    unfold dStep
    split
    · exact dFold_in hn l fl h1 h2 h3
    · rename_i c
      rw [not_or] at c
      split
      · refine dFold_in hn l _ (app h1) h2 fun p hp => ?_
        rcases List.mem_append.mp hp with hp | hp
        · exact h3 p hp
        · simp at hp; subst hp; exact c.2
      · refine dFold_in hn l _ h1 (app h2) fun p hp q => ?_
        rcases List.mem_append.mp q with q | q
        · exact h3 p hp q
        · simp at q; subst q; exact c.1 hp
theorem dTables_perm (scr : List Int) : (dTables scr).Perm (upto (dN scr)) := by
  have h : ((upto (dN scr)).drop (dTurn scr) ++ (upto (dN scr)).take (dTurn scr)).Perm (upto (dN scr)) := by
    refine List.perm_append_comm.trans ?_
    rw [List.take_append_drop]
  unfold dTables
  dsimp only
  split
  · exact (List.reverse_perm _).trans h
  · exact h
theorem ring_same {ps qs : List (Int × Int)} {rs : List Int} (h : ∀ x, Ring ps x ↔ Ring qs x) (r : RingList ps rs) : RingList qs rs := ⟨r.lt, fun x => (r.mem x).trans (h x)⟩
theorem drew_ok (scr : List Int) : (drew scr).Ok := by
  have hn := dN_le scr
  have len : (dPairs scr).1.length + (dPairs scr).2.length ≤ 7 := by
    have := dFold_length (dN scr) (cut scr (some 1) (some 8)) ([], [])
    have hc : (cut scr (some 1) (some 8)).length ≤ 7 := by simp [cut]; omega
    unfold dPairs
    simp only [List.length_nil] at this
    omega
  obtain ⟨f1, f2, f3⟩ := dFold_in (n := dN scr) (by omega) (cut scr (some 1) (some 8)) ([], []) (fun p hp => nomatch hp) (fun p hp => nomatch hp) (fun p hp => nomatch hp)
  have hp := dTables_perm scr
  have f1' : InR (drew scr).n (drew scr).fixed := f1
  have f2' : InR (drew scr).n (drew scr).loose := f2
  have f3' : ∀ p ∈ (drew scr).fixed, p ∉ (drew scr).loose := f3
  have hp' : (drew scr).its.Perm (upto (drew scr).n) := hp
  have len' : (drew scr).fixed.length + (drew scr).loose.length ≤ 7 := len
  have n3 : 3 ≤ (drew scr).n := hn.1
  have n5 : (drew scr).n ≤ 5 := hn.2
  generalize drew scr = d at *
  have el : d.every.length ≤ 7 := by unfold Drew.every; simpa using len'
  have ein : InR d.n d.every := fun p h => by
    unfold Drew.every at h
    rcases List.mem_append.mp h with h | h
    · exact f1' p h
    · exact f2' p h
  have nd : d.its.Nodup := hp'.nodup_iff.mpr (upto_nodup d.n)
  have ain : InR d.n d.apart := fun p h => ein p (List.mem_filter.mp h).1
  have hcons : d.its = d.its.headD 0 :: d.part := by
    unfold Drew.part
    cases e : d.its with
    | nil =>
      have := hp'.length_eq
      rw [e, upto_length] at this
      simp at this; omega
    | cons y ys => rfl
  have hmem : ∀ x, x ∈ upto d.n → x ≠ d.its.headD 0 → x ∈ d.part := fun x hx hne => by
    have := hp'.mem_iff.mpr hx
    rw [hcons] at this
    rcases List.mem_cons.mp this with q | q
    · exact absurd q hne
    · exact q
  have hhead : d.its.headD 0 ∉ d.part := by
    have := nd
    rw [hcons] at this
    exact (List.nodup_cons.mp this).1
  have pin : ∀ p, p ∈ d.apart ↔ p ∈ inner d.every d.part := fun p => by
    unfold Drew.apart
    rw [List.mem_filter, mem_inner, Bool.not_eq_true', Bool.or_eq_false_iff, beq_eq_false_iff_ne, beq_eq_false_iff_ne]
    constructor
    · rintro ⟨h1, h2, h3⟩
      have := ein p h1
      exact ⟨h1, hmem _ (mem_upto.mpr (range_nat this.1)) h2, hmem _ (mem_upto.mpr (range_nat this.2)) h3⟩
    · rintro ⟨h1, h2, h3⟩
      exact ⟨h1, fun e => hhead (e ▸ h2), fun e => hhead (e ▸ h3)⟩
  have rl := rings_list ein
  refine ⟨n3, n5, hp'.length_eq.trans (upto_length _), el, f1', f2', ?_, ?_, ?_, ?_⟩
  · obtain ⟨LL, bad, L⟩ := lays_some d.every d.part.length d.part (Nat.le_refl _)
    have pnd : d.part.Nodup := (List.drop_sublist 1 d.its).nodup nd
    have al := rings_list ain
    refine ⟨LL, bad, sortok_of n5 ein (by omega) (fun x hx => hp'.mem_iff.mp (List.mem_of_mem_drop hx)) pnd L, fun hb => ⟨?_, lays_right L hb [] (fun y hy => .inl hy) (fun y hy q => nomatch q) pnd, (lays_len L).2 hb⟩, fun hb => ⟨?_, fun t ht => ?_⟩⟩
    · rw [List.eq_nil_iff_forall_not_mem]
      exact fun x hx => (lays_bad L).2 hb x (((al.mem x).mp hx).mono fun p hq => (pin p).mp hq)
    · obtain ⟨x, r⟩ := (lays_bad L).1 hb
      intro e
      have : x ∈ d.among := (al.mem x).mpr (r.mono fun p hq => (pin p).mpr hq)
      rw [e] at this; cases this
    · exact ((al.mem t).mp ht).mono fun p hq => (List.mem_filter.mp hq).1
  · refine right_for n5 (fun p h => ?_) ?_ hp' (ring_same (fun x => ⟨fun r => r.mono fun p h => List.mem_append_left _ h, fun r => r.mono fun p h => ?_⟩) rl)
    · rcases List.mem_append.mp h with h | h
      · exact ein p h
      · exact ein p (List.mem_of_mem_take h)
    · rw [List.length_append, List.length_take]; omega
    · rcases List.mem_append.mp h with h | h
      · exact h
      · exact List.mem_of_mem_take h
  · have iin : InR d.n d.inside := fun p h => ein p (List.mem_filter.mp h).1
    have il : d.inside.length ≤ d.every.length := List.length_filter_le _ _
    have mi : ∀ p, p ∈ d.inside ↔ p ∈ d.every ∧ p ∉ d.putOff := fun p => by
      unfold Drew.inside; rw [List.mem_filter]; simp
    have mp : ∀ p, p ∈ d.putOff ↔ p ∈ d.loose ∧ p.1 ∈ d.rings ∧ p.2 ∈ d.rings := fun p => by
      unfold Drew.putOff; rw [List.mem_filter]; simp
    refine right_for n5 iin (by omega) hp' (ring_same (fun x => ⟨fun r => r.mono fun p h => ?_, fun r => ?_⟩) (rings_list f1'))
    · exact (mi p).mpr ⟨List.mem_append_left _ h, fun q => f3' p h ((mp p).mp q).1⟩
    · refine ring_edges r (P := fun p => Ring d.inside p.1 ∧ Ring d.inside p.2) (fun p _ a b => ⟨a, b⟩) r d.fixed fun p h ⟨a, b⟩ => ?_
      obtain ⟨h1, h2⟩ := (mi p).mp h
      rcases List.mem_append.mp h1 with h3 | h3
      · exact h3
      · have up : ∀ {y}, Ring d.inside y → y ∈ d.rings := fun r => (rl.mem _).mpr (r.mono fun p h => ((mi p).mp h).1)
        exact absurd ((mp p).mpr ⟨h3, up a, up b⟩) h2
  · intro hf
    have fl := rings_list f1'
    have ac : ∀ x, ¬ Ring d.fixed x := fun x r => by
      have : x ∈ d.firm := (fl.mem x).mpr r
      rw [hf] at this; cases this
    refine ⟨fun i ws => (∀ x, ¬ Ring ws x) ∧ InR d.n ws ∧ ws.length ≤ d.fixed.length + i ∧ i ≤ d.loose.length, ⟨ac, f1', by omega, Nat.zero_le _⟩, fun i ws h => ⟨by have := h.2.2; omega, h.2.1⟩, fun i ws q h hq => ?_⟩
    obtain ⟨h1, h2, h3, h4⟩ := h
    have hil : i < d.loose.length := (List.getElem?_eq_some_iff.mp hq).1
    have hqi := f2' q (List.mem_of_getElem? hq)
    have bl := between_list h2 hqi h1
    have h2' : InR d.n (ws ++ [q]) := fun p hp => by
      rcases List.mem_append.mp hp with hp | hp
      · exact h2 p hp
      · simp at hp; subst hp; exact hqi
    refine ⟨right_for n5 h2' (by simp; omega) hp' bl, fun e => ⟨fun x r => ?_, h2', by simp; omega, hil⟩, fun _ => ⟨h1, h2, by omega, hil⟩⟩
    have := (bl.mem x).mpr r
    rw [e] at this; cases this
end Mine
end
section
open PySem PySem.W PyProof.Rows PySem.SeqAt
set_option maxRecDepth 100000
set_option autoImplicit false
set_option linter.unusedVariables false
namespace Mine
theorem allbare_grow : ∀ a b, grow a b → AllBare a → AllBare b := fun a b g h => g.2 h
/-- the law called from outside -/
theorem top_law {P : Program} {w : World} {A : Around} {s : Shared} {G : Str → Option Value} {K : ExcK} {fv : Value} {la : Addr} {scr : List Int} {Q : Value → Shared → Prop} {E : Value → Shared → Prop}
    (glob : ∃ mg mb, s.heap.Ns mainGlobals mg ∧ s.heap.Ns builtinsNs mb ∧ ∀ x v, G x = some v → mg x = some v ∨ (mg x = none ∧ mb x = some v)) (nolim : s.heap.NoLimit)
    (fs : Fns G s.heap) (exc : ExcIn K s.heap) (excG : G "CircularDependencyError" = some (.ref K.C)) (subs : ∃ f, G "sort_as_subsets" = some f ∧ FnAt s.heap f 4 ["tuples", "allitems"]) (sortG : ∃ fv, G "sort" = some fv ∧ SortAt s.heap fv)
    (F : FnAt s.heap fv 16 ["script"]) (hl : LRep s.heap la (scr.map .int)) (hlen : scr.length < 1000) (hg : AllBare s.gens) (hsz : 126 < s.heap.objs.size)
    (hh : A.handled = none) (hfr : A.frames = some []) (hd : A.depth + 20 < recursionLimit) (hu : A.units + 2000 < cLine)
    (hQ : ∀ s', ExtK s.heap s'.heap → s'.os = s.os → AllBare s'.gens → Q (.bool true) s') : wpAny (model P w) A (call fv [.ref la]) Q E s := by
  obtain ⟨fa, o, fd, rfl, g, dd, hcl, hcd, hbody, hclo, hgl, hbl, hs, hbind⟩ := F
  have good : ScGood (fnS 16) ["script"] := scGood_ok (by rfl)
  have hnd : (((["script"] : List Str).zip [Value.ref la]).map (·.1)).Nodup := by simp
  refine wpAny_call (call_cellsK (binds := (["script"] : List Str).zip [.ref la]) (by omega) g dd nolim hcd hbody (hbind _ rfl) hclo (fun x hx => ?_) (fun s₁ hs₁ hF₁ => ?_) (by rw [hs]; rfl) (by rw [hs]; rfl) (by rw [hs]; rfl))
  · rw [hs]
    rcases (by simpa using hx) with rfl
    exact .inl rfl
  · have hL : (callEnvC fd s.heap.objs.size fa).locals = s.heap.objs.size := rfl
    have hcc : (callEnvC fd s.heap.objs.size fa).cells = cellsFrom (s.heap.objs.size + 1) fd.scope.names [] := rfl
    have hkd : ∀ x, (callEnvC fd s.heap.objs.size fa).kindOf x = (fnS 16).names.lookup x := fun x => by rw [← hs]; rfl
    obtain ⟨h₁, tk₁, he₁⟩ := hs₁.toInCall.same
    have x₁ : Ext s.heap s₁.heap := hs₁.toInCall.keep
    generalize hC : (Cx.mk P w s.heap (fun b => s.heap.get? b) AllBare s.os G (fnS 16) 17 false true : Cx) = C
    have k : C.Ok := by subst hC; exact ⟨fun b o e => ⟨o, e, .inl rfl⟩, glob, nolim⟩
    have L : LawEnv C K := by subst hC; exact ⟨fs, exc, excG, subs, sortG, allbare_grow, rfl⟩
    obtain ⟨vs, nn, gl, vr⟩ := hl
    have hla : la < s.heap.objs.size := Heap.lt_size gl
    have R : SRep C (callEnvC fd s.heap.objs.size fa) (fun x => ((["script"] : List Str).zip [AV.ref la]).lookup x) (fun b => if b = la then some (.ro (scr.map .int)) else none) s₁ := by
      subst hC
      refine ⟨fun b o e => .of (x₁ b o e), ⟨hs, rfl, hgl, hbl, hsz, ⟨_, hs₁.toInCall.ns, fun x v h1 h2 => ?_⟩, fun x hx => ?_, hs₁.apart, ?_, fun _ p hp => ?_, fun p hp => ?_, fun _ => ⟨rfl, hF₁⟩⟩, ?_, fun b o e => ?_, ?_, ?_⟩
      · obtain ⟨c, h3, h4⟩ := zip_look (h := s.heap) (ps := ["script"]) (avs := [.ref la]) (vs := [.ref la]) ⟨rfl, trivial⟩ h2
        refine ⟨c, ?_, h4.t x₁.t⟩
        rw [bindL_get _ _ _ _ hnd ((hkd x).trans h1), h3]; rfl
      · have hc : fd.scope.names.lookup x = some .cell := by
          rw [hs]
          rcases hx with e | e
          · exact e
          · exact absurd rfl (good.nofree _ (mem_of_lookup' e))
        obtain ⟨ca, hca⟩ := Option.isSome_iff_exists.mp (cell_some (n := s.heap.objs.size + 1) hc)
        refine ⟨ca, _, hca, hs₁.cell _ _ hca, fun v hv' => ?_⟩
        obtain ⟨c, h3, h4⟩ := zip_look (h := s.heap) (ps := ["script"]) (avs := [.ref la]) (vs := [.ref la]) ⟨rfl, trivial⟩ hv'
        refine ⟨c, ?_, h4.t x₁.t⟩
        rw [bindC_get _ _ _ _ hnd (by rw [hkd, ← hs, hc]; decide), h3]; rfl
      · exact Heap.get?_none_of_le (Nat.le_refl _)
      · exact Heap.get?_none_of_le (Nat.le_of_lt (hs₁.above p.1 p.2 hp))
      · exact ⟨_, hs₁.cell _ _ (cell_own (hs ▸ good.names) hp)⟩
      · show (if s.heap.objs.size = la then _ else none) = none
        rw [if_neg (Nat.ne_of_gt hla)]
      · split at e
        · rename_i q
          cases e
          subst q
          exact ⟨⟨vs, nn, x₁ _ _ gl, vr.t x₁.t⟩, _, gl, .inl rfl⟩
        · cases e
      · show AllBare s₁.gens
        rw [he₁]; exact hg
      · rw [he₁]
    have ok : AOk C (A.deeper (callEnvC fd s.heap.objs.size fa)) (callEnvC fd s.heap.objs.size fa) := by
      subst hC
      refine ⟨hh, ?_, ?_, fun _ => ⟨[], ?_, fun e he => nomatch he⟩⟩
      · show A.depth + 1 + 17 < recursionLimit; omega
      · show A.units + 3 + 100 * 17 + 50 < cLine; omega
      · show A.frames.map _ = _
        rw [hfr]; rfl
    have go := law_walk L k (by subst hC; show 16 < 17; decide) (by subst hC; rfl) (by subst hC; rfl) (drew_ok scr) (sa := la) rfl (if_pos rfl) hlen _ _ s₁ ok R
    subst hC
    refine wpAny_mono go (fun f s₂ ⟨af, ρ', H', hf, R₂, e⟩ => ?_) fun _ _ x => x.elim
    subst e
    obtain ⟨c, rfl, hc⟩ := hf
    obtain rfl := hc
    exact hQ s₂ (fun b o e => R₂.keep b o e) R₂.os R₂.gens
end Mine
end
section
open PySem PySem.W PyProof.Rows PySem.SeqAt
set_option maxRecDepth 100000
set_option autoImplicit false
set_option linter.unusedVariables false
namespace Mine
theorem fnAt_ok {h : Heap} {fa : Addr} {i : Nat} {ps : List Str} {o : Obj} (fd : FuncData) (g : h.get? fa = some o) (hd : o.data = .func fd) (hc : o.cls = .type "function") (hcd : h.CodeRec fd.code fd.qualname) (hb : fd.body = .stmts (fnB i)) (h1 : fd.closure = []) (h2 : fd.globals = mainGlobals)
    (h3 : fd.builtins = builtinsNs) (hs : fd.scope = fnS i) (hbd : ∀ vals : List Value, vals.length = ps.length → bindArgs fd ⟨vals, []⟩ = pure (ps.zip vals)) : FnAt h (.ref fa) i ps :=
  ⟨fa, o, fd, rfl, g, hd, hc, hcd, hb, h1, h2, h3, hs, hbd⟩
/-- every key is a string -/
def strKeys (es : Array DictEntry) : Bool := es.all fun e => match e.key with | .str _ _ => true | _ => false
theorem strKeys_ok {es : Array DictEntry} (h : strKeys es = true) : StrKeys es := by
  intro e he
  have q := Array.all_eq_true_iff_forall_mem.mp h e he
  cases k : e.key with
  | str n t => exact ⟨n, t, rfl⟩
  | _ => rw [k] at q; cases q
theorem ns_ok {h : Heap} {a : Addr} {o : Obj} {es : Array DictEntry} {ep : Nat} (g : h.get? a = some o) (hd : o.data = .dict es ep) (hk : strKeys es = true) : h.Ns a (nsFind es) := ⟨o, es, ep, g, hd, strKeys_ok hk, fun _ => rfl⟩
/-- a name: of the globals, else of the builtins -/
def twoNs (mg mb : Str → Option Value) : Str → Option Value := fun x => match mg x with | some v => some v | none => mb x
theorem glob_ok {h : Heap} {mg mb : Str → Option Value} (g : h.Ns mainGlobals mg) (b : h.Ns builtinsNs mb) : ∃ mg' mb', h.Ns mainGlobals mg' ∧ h.Ns builtinsNs mb' ∧ ∀ x v, twoNs mg mb x = some v → mg' x = some v ∨ (mg' x = none ∧ mb' x = some v) := by
  refine ⟨mg, mb, g, b, fun x v e => ?_⟩
  unfold twoNs at e
  cases q : mg x with
  | some u => rw [q] at e; exact .inl e
  | none => rw [q] at e; exact .inr ⟨rfl, e⟩
theorem two_g {mg mb : Str → Option Value} {x : Str} {v : Value} (h : mg x = some v) : twoNs mg mb x = some v := by
  unfold twoNs; rw [h]
theorem two_b {mg mb : Str → Option Value} {x : Str} {v : Value} (h : mg x = none) (h' : mb x = some v) : twoNs mg mb x = some v := by
  unfold twoNs; rw [h]; exact h'
theorem sortAt_ok {h : Heap} {fa T : Addr} {o oT : Obj} {n : Nat} (fd : FuncData) (g : h.get? fa = some o) (hd : o.data = .func fd) (hc : o.cls = .type "function") (hcd : h.CodeRec fd.code fd.qualname) (hb : fd.body = .stmts (fnB 5)) (h1 : fd.closure = []) (h2 : fd.globals = mainGlobals)
    (h3 : fd.builtins = builtinsNs) (hs : fd.scope = fnS 5) (gT : h.get? T = some oT) (hT : T ≤ 126) (dT : oT.data = .seq #[.bool true] n) (hdf : fd.defaults = .ref T)
    (hbd : ∀ v1 v2 : Value, ∃ k, bindArgs fd ⟨[v1, v2], []⟩ = seqItems? fd.defaults >>= k ∧ k (some #[.bool true]) = pure ((["tuples", "allitems", "deterministic_order"] : List Str).zip [v1, v2, .bool true])) : SortAt h (.ref fa) := by
  refine ⟨fa, o, fd, rfl, g, hd, hc, hcd, hb, h1, h2, h3, hs, fun P w A Q E s v1 v2 x hq => ?_⟩
  obtain ⟨k, e1, e2⟩ := hbd v1 v2
  exact BindsTo.of_defaults hdf ((x _ _ gT).oldx hT) dT e1 e2 _ _ _ _ hq
theorem old_ok {h h' : Heap} (hsz : h.objs.size = 127) (x : ExtK h h') : OldK h h' :=
  .of_keep fun b o e => (x b o e).oldx (by have q := Heap.lt_size e; rw [hsz] at q; exact Nat.le_of_lt_succ q)
theorem vreps_ints {h : Heap} {vs : List Value} {ns : List Int} (x : IntsAre vs ns) : VReps h (ns.map .int) vs := by
  induction x with
  | nil => trivial
  | cons n t _ ih => exact ⟨⟨t, rfl⟩, ih⟩
theorem lrep_ok {h : Heap} {a : Addr} {vs : List Value} {ns : List Int} (g : h.get? a = some { cls := .type "list", data := .seq vs.toArray }) (x : IntsAre vs ns) : LRep h a (ns.map .int) :=
  ⟨vs.toArray, _, g, vreps_ints x⟩
end Mine
end
open PySem PySem.W PySem.W.X PyProof.Rows
set_option maxRecDepth 100000 in
set_option maxHeartbeats 0 in
theorem PySem.Challenge.cw_bn5030_01_holds : PySem.Challenge.rw_bn5030_01.Holds := by
  w_on; o_law; z_head; (case hw => w_witness2)
  k_fill
  intro w s₀ s₁ mg mb G y fa o pm cd doc dV kV ho hd hcd hD hmg hg args vals as L hpre hlay hrd hwl hlo
  z_open y L KX ZH ZN ZT
  refine Ground.open G ?_
  intro T B D TE TW
  wrow_args hpre hlay hrd hwl hlo
  obtain ⟨hat, hsz⟩ := script_at L
  have htk := script_toks L ZT
  rw [ZN] at hat hsz
  subst hat
  x_fa T KX hmg
  have F4 : Mine.FnAt s₁.heap (.ref 57) 4 ["tuples", "allitems"] := by
    refine Mine.fnAt_ok _ (KX 57 _ rfl) rfl ?_ ⟨_, _, _, _, rfl, KX 56 _ rfl, rfl, rfl⟩ ?_ rfl rfl rfl ?_ ?_
    · show _ = _; kernel_rfl
    · show _ = _; kernel_rfl
    · show _ = _; kernel_rfl
    · intro vals hv
      match vals, hv with
      | [a0, a1], _ => rfl
  have F6 : Mine.FnAt s₁.heap (.ref 72) 6 ["tuples", "allitems"] := by
    refine Mine.fnAt_ok _ (KX 72 _ rfl) rfl ?_ ⟨_, _, _, _, rfl, KX 71 _ rfl, rfl, rfl⟩ ?_ rfl rfl rfl ?_ ?_
    · show _ = _; kernel_rfl
    · show _ = _; kernel_rfl
    · show _ = _; kernel_rfl
    · intro vals hv
      match vals, hv with
      | [a0, a1], _ => rfl
  have F7 : Mine.FnAt s₁.heap (.ref 77) 7 ["edges"] := by
    refine Mine.fnAt_ok _ (KX 77 _ rfl) rfl ?_ ⟨_, _, _, _, rfl, KX 76 _ rfl, rfl, rfl⟩ ?_ rfl rfl rfl ?_ ?_
    · show _ = _; kernel_rfl
    · show _ = _; kernel_rfl
    · show _ = _; kernel_rfl
    · intro vals hv
      match vals, hv with
      | [a0], _ => rfl
  have F9 : Mine.FnAt s₁.heap (.ref 84) 9 ["script"] := by
    refine Mine.fnAt_ok _ (KX 84 _ rfl) rfl ?_ ⟨_, _, _, _, rfl, KX 83 _ rfl, rfl, rfl⟩ ?_ rfl rfl rfl ?_ ?_
    · show _ = _; kernel_rfl
    · show _ = _; kernel_rfl
    · show _ = _; kernel_rfl
    · intro vals hv
      match vals, hv with
      | [a0], _ => rfl
  have F10 : Mine.FnAt s₁.heap (.ref 91) 10 ["n", "pairs"] := by
    refine Mine.fnAt_ok _ (KX 91 _ rfl) rfl ?_ ⟨_, _, _, _, rfl, KX 90 _ rfl, rfl, rfl⟩ ?_ rfl rfl rfl ?_ ?_
    · show _ = _; kernel_rfl
    · show _ = _; kernel_rfl
    · show _ = _; kernel_rfl
    · intro vals hv
      match vals, hv with
      | [a0, a1], _ => rfl
  have F11 : Mine.FnAt s₁.heap (.ref 96) 11 ["n", "pairs"] := by
    refine Mine.fnAt_ok _ (KX 96 _ rfl) rfl ?_ ⟨_, _, _, _, rfl, KX 95 _ rfl, rfl, rfl⟩ ?_ rfl rfl rfl ?_ ?_
    · show _ = _; kernel_rfl
    · show _ = _; kernel_rfl
    · show _ = _; kernel_rfl
    · intro vals hv
      match vals, hv with
      | [a0, a1], _ => rfl
  have F12 : Mine.FnAt s₁.heap (.ref 101) 12 ["n", "pairs", "pair"] := by
    refine Mine.fnAt_ok _ (KX 101 _ rfl) rfl ?_ ⟨_, _, _, _, rfl, KX 100 _ rfl, rfl, rfl⟩ ?_ rfl rfl rfl ?_ ?_
    · show _ = _; kernel_rfl
    · show _ = _; kernel_rfl
    · show _ = _; kernel_rfl
    · intro vals hv
      match vals, hv with
      | [a0, a1, a2], _ => rfl
  have F13 : Mine.FnAt s₁.heap (.ref 106) 13 ["laid", "pairs", "tables"] := by
    refine Mine.fnAt_ok _ (KX 106 _ rfl) rfl ?_ ⟨_, _, _, _, rfl, KX 105 _ rfl, rfl, rfl⟩ ?_ rfl rfl rfl ?_ ?_
    · show _ = _; kernel_rfl
    · show _ = _; kernel_rfl
    · show _ = _; kernel_rfl
    · intro vals hv
      match vals, hv with
      | [a0, a1, a2], _ => rfl
  have F14 : Mine.FnAt s₁.heap (.ref 113) 14 ["pairs", "tables", "rings"] := by
    refine Mine.fnAt_ok _ (KX 113 _ rfl) rfl ?_ ⟨_, _, _, _, rfl, KX 112 _ rfl, rfl, rfl⟩ ?_ rfl rfl rfl ?_ ?_
    · show _ = _; kernel_rfl
    · show _ = _; kernel_rfl
    · show _ = _; kernel_rfl
    · intro vals hv
      match vals, hv with
      | [a0, a1, a2], _ => rfl
  have F15 : Mine.FnAt s₁.heap (.ref 120) 15 ["n", "tables", "fixed", "loose"] := by
    refine Mine.fnAt_ok _ (KX 120 _ rfl) rfl ?_ ⟨_, _, _, _, rfl, KX 119 _ rfl, rfl, rfl⟩ ?_ rfl rfl rfl ?_ ?_
    · show _ = _; kernel_rfl
    · show _ = _; kernel_rfl
    · show _ = _; kernel_rfl
    · intro vals hv
      match vals, hv with
      | [a0, a1, a2, a3], _ => rfl
  have F16 : Mine.FnAt s₁.heap (.ref 125) 16 ["script"] := by
    refine Mine.fnAt_ok _ (KX 125 _ rfl) rfl ?_ ⟨_, _, _, _, rfl, KX 124 _ rfl, rfl, rfl⟩ ?_ rfl rfl rfl ?_ ?_
    · show _ = _; kernel_rfl
    · show _ = _; kernel_rfl
    · show _ = _; kernel_rfl
    · intro vals hv
      match vals, hv with
      | [a0], _ => rfl
  have F5 : Mine.SortAt s₁.heap (.ref 65) := by
    refine Mine.sortAt_ok _ (KX 65 _ rfl) rfl ?_ ⟨_, _, _, _, rfl, KX 64 _ rfl, rfl, rfl⟩ ?_ rfl rfl rfl ?_ (KX 58 _ rfl) (by decide) rfl rfl ?_
    · show _ = _; kernel_rfl
    · show _ = _; kernel_rfl
    · show _ = _; kernel_rfl
    · intro v1 v2
      exact ⟨_, rfl, rfl⟩
  have N3 : s₁.heap.Ns mainGlobals _ := Mine.ns_ok (KX 3 _ rfl) rfl (by kernel_rfl)
  have N0 : s₁.heap.Ns builtinsNs _ := Mine.ns_ok (KX 0 _ rfl) rfl (by kernel_rfl)
  have N2 : s₁.heap.Ns cStatics _ := Mine.ns_ok (KX 2 _ rfl) rfl (by kernel_rfl)
  obtain ⟨mN, N48, i1, i2, i3, i4, i5, i6⟩ : ∃ m, s₁.heap.Ns 48 m ∧ m "__init__" = some (.ref 46) ∧ m "__getattribute__" = none ∧ m "__getattr__" = none ∧ m "__setattr__" = none ∧ m "cycles" = none ∧ m "edges" = none :=
    ⟨_, Mine.ns_ok (KX 48 _ rfl) rfl (by kernel_rfl), by (show _ = _; kernel_rfl), by (show _ = _; kernel_rfl), by (show _ = _; kernel_rfl), by (show _ = _; kernel_rfl), by (show _ = _; kernel_rfl), by (show _ = _; kernel_rfl)⟩
  have X : Mine.ExcIn ⟨"CircularDependencyError", "CircularDependencyError", 49, 48, [.type "Exception"], [], [], false, none, some (.ref 33), none, some (.str "CircularDependencyError" 281), some (.str "CircularDependencyError" 289), some (.bool true), mN, 46⟩ s₁.heap := by
    refine ⟨KX 49 _ rfl, N48, i1, i2, i3, i4, i5, i6, ?_⟩
    refine ⟨_, _, KX 46 _ rfl, ?_, rfl, ⟨_, _, _, _, rfl, KX 45 _ rfl, rfl, rfl⟩, ?_, rfl, rfl, rfl, ?_, ?_⟩
    · show _ = _; kernel_rfl
    · show _ = _; kernel_rfl
    · show _ = _; kernel_rfl
    · intro vals hv
      match vals, hv with
      | [a0, a1, a2, a3], _ => rfl
  have LR : Mine.LRep s₁.heap 126 (List.map _ _) := Mine.lrep_ok (script_obj L (by assumption)) (by assumption)
  refine Mine.top_law (la := 126) (Mine.glob_ok N3 N0) ⟨_, N2, by show _ = _; kernel_rfl⟩ ?fs X (Mine.two_g ?eg) ⟨_, Mine.two_g (v := .ref 57) ?sg, F4⟩ ⟨_, Mine.two_g (v := .ref 65) ?tg, F5⟩ F16 LR ?len ?gens ?sz ?h1 ?h2 ?h3 ?h4 ?fin
  case eg => show _ = _; kernel_rfl
  case sg => show _ = _; kernel_rfl
  case tg => show _ = _; kernel_rfl
  case fs =>
    refine ⟨Mine.two_b ?_ ?_, Mine.two_b ?_ ?_, Mine.two_b ?_ ?_, Mine.two_b ?_ ?_, Mine.two_b ?_ ?_, Mine.two_b ?_ ?_, Mine.two_g ?_, ⟨_, Mine.two_g ?_, F6⟩, ⟨_, Mine.two_g ?_, F7⟩, ⟨_, Mine.two_g ?_, F9⟩, ⟨_, Mine.two_g ?_, F10⟩, ⟨_, Mine.two_g ?_, F11⟩, ⟨_, Mine.two_g ?_, F12⟩, ⟨_, Mine.two_g ?_, F13⟩, ⟨_, Mine.two_g ?_, F14⟩, ⟨_, Mine.two_g ?_, F15⟩⟩
    all_goals (show _ = _; kernel_rfl)
  case len => omega
  case gens => exact AllBare.of_eq hg
  case sz => rw [hsz]; decide
  case h1 => rfl
  case h2 => rfl
  case h3 => decide
  case h4 => decide
  case fin =>
    intro s' x ho' hb'
    exact ⟨.inl ⟨.bool true, .bool true, [], rfl, fun _ => rfl, .bool true, by (show _ = _; kernel_rfl), fun _ => ⟨List.nodup_nil, nofun⟩⟩, Mine.old_ok hsz x, ho', hb'⟩
